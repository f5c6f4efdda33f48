import PyProof.Rows.All
import Wide.All
import OpenK.AllK
import Wide.FinOn
import PySem.Challenge.RW_ad5021_01
set_option Elab.async false
set_option rowWalk.seconds 0
set_option maxRecDepth 100000
section
open PySem PySem.W PyProof.Rows
namespace Mine
set_option maxHeartbeats 8000000 in
open_top hd for PySem.Challenge.rw_ad5021_01
end Mine
end
section
open PySem PySem.W PyProof.Rows
set_option maxRecDepth 100000
namespace Mine
open PySem.Float64

/-! ## floats: half integers, quotients -/

def hf (k : Int) : UInt64 := Float64.ofFrac (decide (k < 0)) k.natAbs 2

theorem p1074 : (2 : Nat) ^ 1074 = 2 ^ 1073 * 2 := Nat.pow_succ 2 1073
theorem rep (q : Nat) (hq : q ≤ 2 ^ 53) : ∃ t, t < infMag ∧ V t = q * 2 ^ 1073 := by
  have hi : infMag = 2047 * 2 ^ 52 := rfl
  by_cases h0 : q = 0
  · subst h0
    exact ⟨0, by rw [hi]; omega, by rw [V_zero]; omega⟩
  by_cases h1 : q = 2 ^ 53
  · subst h1
    refine ⟨1074 * 2 ^ 52 + 2 ^ 52, by rw [hi]; omega, ?_⟩
    rw [V_at (by omega) (.inl (by omega)), p1074]
    generalize (2 : Nat) ^ 1073 = K
    omega
  · have hl : q.log2 ≤ 52 := by
      have := (Nat.log2_lt h0 (k := 53)).mpr (by omega)
      omega
    have hlo : 2 ^ q.log2 ≤ q := Nat.log2_self_le h0
    have hhi : q < 2 ^ (q.log2 + 1) := Nat.lt_log2_self
    have e1 : (2 : Nat) ^ q.log2 * 2 ^ (52 - q.log2) = 2 ^ 52 := by rw [← Nat.pow_add]; congr 1; omega
    have e2 : (2 : Nat) ^ (q.log2 + 1) * 2 ^ (52 - q.log2) = 2 ^ 53 := by rw [← Nat.pow_add]; congr 1; omega
    have e3 : (2 : Nat) ^ (52 - q.log2) * 2 ^ (1021 + q.log2) = 2 ^ 1073 := by rw [← Nat.pow_add]; congr 1; omega
    have a1 : 2 ^ 52 ≤ q * 2 ^ (52 - q.log2) := by rw [← e1]; exact Nat.mul_le_mul_right _ hlo
    have a2 : q * 2 ^ (52 - q.log2) ≤ 2 ^ 53 := by rw [← e2]; exact Nat.mul_le_mul_right _ (Nat.le_of_lt hhi)
    refine ⟨(1021 + q.log2) * 2 ^ 52 + q * 2 ^ (52 - q.log2), ?_, ?_⟩
    · rw [hi]; omega
    · rw [V_at a2 (.inl a1), Nat.mul_assoc, e3]

theorem V_inj {t t' : Nat} (h : V t = V t') : t = t' := by
  rcases Nat.lt_trichotomy t t' with h1 | h1 | h1
  · have := V_lt h1; omega
  · exact h1
  · have := V_lt h1; omega

theorem right_fin {r : UInt64} {neg : Bool} {W D : Nat} (h : Right r neg W D) (hD : 0 < D) (hs : W ≤ D * 2 ^ 1200) :
    ∃ t, r = pack neg t ∧ t < infMag ∧ ∀ t', dist W (D * V t) ≤ dist W (D * V t') := by
  obtain ⟨t, h1, h2, h3, h4⟩ := h
  have hlt : t < infMag := by
    rcases Nat.lt_or_eq_of_le h2 with h5 | h5
    · exact h5
    · exfalso
      have h6 := h3.mp h5
      have e1 : (2 : Nat) ^ 2045 = 2 ^ 1200 * 2 ^ 845 := by rw [← Nat.pow_add]
      have e2 : 1 ≤ (2 : Nat) ^ 845 := Nat.two_pow_pos _
      have e3 : 0 < (2 : Nat) ^ 1200 := Nat.two_pow_pos _
      have e4 : D * (4 * 2 ^ 1200) ≤ D * ((2 ^ 54 - 1) * 2 ^ 2045) := by
        rw [e1]
        refine Nat.mul_le_mul_left _ ?_
        have : 2 ^ 1200 * 1 ≤ (2 : Nat) ^ 1200 * 2 ^ 845 := Nat.mul_le_mul_left _ e2
        generalize (2 : Nat) ^ 1200 * 2 ^ 845 = Y at *
        generalize (2 : Nat) ^ 1200 = X at *
        omega
      generalize (2 : Nat) ^ 2045 = Y at *
      generalize (2 : Nat) ^ 1200 = X at *
      have e5 : D * (4 * X) = 4 * (D * X) := by ac_rfl
      have e6 : 0 < D * X := Nat.mul_pos hD e3
      omega
  exact ⟨t, h1, hlt, fun t' => (h4 hlt t').1⟩

theorem right_exact {r : UInt64} {neg : Bool} {W D t0 : Nat} (h : Right r neg W D) (hD : 0 < D) (hs : W ≤ D * 2 ^ 1200) (hW : W = D * V t0) : r = pack neg t0 := by
  obtain ⟨t, h1, _, h3⟩ := right_fin h hD hs
  have h4 := h3 t0
  rw [hW] at h4
  unfold dist at h4
  have h5 : D * V t0 = D * V t := by omega
  have h6 := V_inj (Nat.eq_of_mul_eq_mul_left hD h5)
  rw [h1, h6]

theorem pow_le_1200 {q : Nat} (hq : q ≤ 2 ^ 53) : q * 2 ^ 1073 ≤ 2 ^ 1200 := by
  have e : (2 : Nat) ^ 1200 = 2 ^ 127 * 2 ^ 1073 := by rw [← Nat.pow_add]
  rw [e]
  exact Nat.mul_le_mul_right _ (by omega)

theorem hf_pack (k : Int) (hk : k.natAbs ≤ 2 ^ 53) : ∃ t, t < infMag ∧ V t = k.natAbs * 2 ^ 1073 ∧ hf k = pack (decide (k < 0)) t := by
  obtain ⟨t, ht, hV⟩ := rep k.natAbs hk
  refine ⟨t, ht, hV, ?_⟩
  have hr : Right (hf k) (decide (k < 0)) (k.natAbs * 2 ^ 1073) 1 := by
    unfold hf
    refine ofFrac_right (by decide) ?_ (by decide)
    rw [p1074]
    generalize (2 : Nat) ^ 1073 = K
    rw [Nat.mul_one, Nat.mul_assoc]
  refine right_exact hr (by decide) ?_ (by rw [hV, Nat.one_mul])
  rw [Nat.one_mul]
  exact pow_le_1200 hk

/-- r is the exact float of sign and magnitude of the half integer c -/
theorem right_hf {r : UInt64} {W D : Nat} {c : Int} (h : Right r (decide (c < 0)) W D) (hc : c.natAbs ≤ 2 ^ 53) (hD : 0 < D) (hW : W = D * (c.natAbs * 2 ^ 1073)) : r = hf c := by
  obtain ⟨t, _, hV, he⟩ := hf_pack c hc
  rw [he]
  refine right_exact h hD ?_ (by rw [hV]; exact hW)
  rw [hW]
  exact Nat.mul_le_mul_left _ (pow_le_1200 hc)

theorem hf_decode {k : Int} (hk : k.natAbs ≤ 2 ^ 53) : ∃ m e, decode (hf k) = .fin (decide (k < 0)) m e ∧ val (hf k) = k * 2 ^ 1073 := by
  obtain ⟨t, ht, hV, he⟩ := hf_pack k hk
  obtain ⟨m, e, hd, _⟩ := decode_pack (decide (k < 0)) ht
  have hv := val_pack (decide (k < 0)) ht
  rw [← he] at hd hv
  refine ⟨m, e, hd, ?_⟩
  rw [hv, hV]
  have e2 : ((2 : Int) ^ 1073) = ((2 ^ 1073 : Nat) : Int) := by simp
  rw [e2]
  generalize (2 : Nat) ^ 1073 = K
  unfold sgn
  by_cases h : k < 0
  · have e1 : k = -((k.natAbs : Nat) : Int) := by omega
    rw [if_pos (by simpa using h)]
    conv => rhs; rw [e1]
    rw [Int.neg_mul, Int.natCast_mul]
  · have e1 : k = ((k.natAbs : Nat) : Int) := by omega
    rw [if_neg (by simpa using h)]
    conv => rhs; rw [e1]
    rw [Int.natCast_mul]

theorem hf_zero : hf 0 = zero false := by decide +kernel

theorem hf_mag (k : Int) (K : Nat) : (k * (K : Int)).natAbs = k.natAbs * K := by rw [Int.natAbs_mul]; simp
theorem pow_cast (n : Nat) : ((2 : Int) ^ n) = ((2 ^ n : Nat) : Int) := by simp
theorem pow_pos' (n : Nat) : (0 : Int) < 2 ^ n := by rw [pow_cast]; exact Int.ofNat_lt.mpr (Nat.two_pow_pos _)

theorem mul_pos_lt {a K : Int} (hK : 0 < K) : a * K < 0 ↔ a < 0 := by
  constructor
  · intro h
    by_cases h2 : a < 0
    · exact h2
    · have := Int.mul_nonneg (show 0 ≤ a by omega) (Int.le_of_lt hK); omega
  · intro h; exact Int.mul_neg_of_neg_of_pos h hK

theorem add_hf {a b : Int} (ha : a.natAbs ≤ 2 ^ 53) (hb : b.natAbs ≤ 2 ^ 53) (hc : (a + b).natAbs ≤ 2 ^ 53) : add (hf a) (hf b) = hf (a + b) := by
  obtain ⟨m, e, hd, hv⟩ := hf_decode ha
  obtain ⟨m', e', hd', hv'⟩ := hf_decode hb
  obtain ⟨h1, h2⟩ := add_right hd hd'
  rw [hv, hv', ← Int.add_mul] at h1 h2
  have hp := pow_pos' 1073
  by_cases h0 : a + b = 0
  · rw [h1 (by rw [h0, Int.zero_mul]), h0, hf_zero]
    have : (decide (a < 0) && decide (b < 0)) = false := by
      by_cases h : a < 0
      · simp [show ¬ b < 0 by omega]
      · simp [h]
    rw [this]
  · have h3 := h2 (fun h => by rcases Int.mul_eq_zero.mp h with h | h <;> omega)
    have e1 : decide ((a + b) * 2 ^ 1073 < 0) = decide (a + b < 0) := decide_eq_decide.mpr (mul_pos_lt hp)
    rw [e1, pow_cast, hf_mag] at h3
    exact right_hf h3 hc (by decide) (by rw [Nat.one_mul])

theorem sub_hf {a b : Int} (ha : a.natAbs ≤ 2 ^ 53) (hb : b.natAbs ≤ 2 ^ 53) (hc : (a - b).natAbs ≤ 2 ^ 53) : sub (hf a) (hf b) = hf (a - b) := by
  obtain ⟨m, e, hd, hv⟩ := hf_decode ha
  obtain ⟨m', e', hd', hv'⟩ := hf_decode hb
  obtain ⟨h1, h2⟩ := sub_right hd hd'
  rw [hv, hv', ← Int.sub_mul] at h1 h2
  have hp := pow_pos' 1073
  by_cases h0 : a - b = 0
  · rw [h1 (by rw [h0, Int.zero_mul]), h0, hf_zero]
    have : (decide (a < 0) && !decide (b < 0)) = false := by
      by_cases h : a < 0
      · simp [show b < 0 by omega]
      · simp [h]
    rw [this]
  · have h3 := h2 (fun h => by rcases Int.mul_eq_zero.mp h with h | h <;> omega)
    have e1 : decide ((a - b) * 2 ^ 1073 < 0) = decide (a - b < 0) := decide_eq_decide.mpr (mul_pos_lt hp)
    rw [e1, pow_cast, hf_mag] at h3
    exact right_hf h3 hc (by decide) (by rw [Nat.one_mul])

theorem ofInt_hf {n : Int} (hn : (2 * n).natAbs ≤ 2 ^ 53) : Float64.ofInt n = hf (2 * n) := by
  have h := ofInt_right n
  have e1 : decide (n < 0) = decide (2 * n < 0) := decide_eq_decide.mpr (by omega)
  rw [e1] at h
  refine right_hf h hn (by decide) ?_
  rw [Nat.one_mul, p1074, Int.natAbs_mul]
  generalize (2 : Nat) ^ 1073 = K
  rw [show (2 : Int).natAbs = 2 from rfl]
  ac_rfl

theorem mul_hf {a b c : Int} (ha : a.natAbs ≤ 2 ^ 53) (hb : b.natAbs ≤ 2 ^ 53) (hb0 : 0 < b) (hc : c.natAbs ≤ 2 ^ 53) (hm : a * b = 2 * c) : mul (hf a) (hf b) = hf c := by
  obtain ⟨m, e, hd, hv⟩ := hf_decode ha
  obtain ⟨m', e', hd', hv'⟩ := hf_decode hb
  have h := mul_right hd hd'
  rw [hv, hv', pow_cast, hf_mag, hf_mag] at h
  have e1 : (decide (a < 0) != decide (b < 0)) = decide (c < 0) := by
    have : ¬ b < 0 := by omega
    have h2 : a < 0 ↔ c < 0 := by
      constructor
      · intro h; have := Int.mul_neg_of_neg_of_pos h hb0; omega
      · intro h
        by_cases h2 : a < 0
        · exact h2
        · have := Int.mul_nonneg (show 0 ≤ a by omega) (Int.le_of_lt hb0); omega
    simp [this, h2]
  rw [e1] at h
  refine right_hf h hc (Nat.two_pow_pos _) ?_
  have e2 : a.natAbs * b.natAbs = 2 * c.natAbs := by rw [← Int.natAbs_mul, hm, Int.natAbs_mul]; rfl
  rw [p1074]
  generalize (2 : Nat) ^ 1073 = K
  calc a.natAbs * K * (b.natAbs * K) = (a.natAbs * b.natAbs) * (K * K) := by ac_rfl
    _ = 2 * c.natAbs * (K * K) := by rw [e2]
    _ = K * 2 * (c.natAbs * K) := by ac_rfl

theorem cmp_hf {a b : Int} (ha : a.natAbs ≤ 2 ^ 53) (hb : b.natAbs ≤ 2 ^ 53) : cmp (hf a) (hf b) = some (compare a b) := by
  obtain ⟨m, e, hd, hv⟩ := hf_decode ha
  obtain ⟨m', e', hd', hv'⟩ := hf_decode hb
  rw [cmp_right hd hd', hv, hv']
  have hp := pow_pos' 1073
  generalize (2 : Int) ^ 1073 = K at *
  congr 1
  rcases Int.lt_trichotomy a b with h | h | h
  · rw [Int.compare_eq_lt.mpr h, Int.compare_eq_lt.mpr (Int.mul_lt_mul_of_pos_right h hp)]
  · subst h; simp
  · rw [Int.compare_eq_gt.mpr h, Int.compare_eq_gt.mpr (Int.mul_lt_mul_of_pos_right h hp)]

theorem cmpInt_hf {a n : Int} (ha : a.natAbs ≤ 2 ^ 53) : cmpInt (hf a) n = some (compare a (2 * n)) := by
  obtain ⟨m, e, hd, hv⟩ := hf_decode ha
  rw [cmpInt_right hd, hv]
  have hp := pow_pos' 1073
  have e1 : (2 : Int) ^ 1074 = 2 * 2 ^ 1073 := by rw [show (1074 : Nat) = 1073 + 1 from rfl, Int.pow_succ, Int.mul_comm]
  rw [e1, ← Int.mul_assoc, Int.mul_comm n 2]
  generalize (2 : Int) ^ 1073 = K at *
  congr 1
  rcases Int.lt_trichotomy a (2 * n) with h | h | h
  · rw [Int.compare_eq_lt.mpr h, Int.compare_eq_lt.mpr (Int.mul_lt_mul_of_pos_right h hp)]
  · rw [h]; simp
  · rw [Int.compare_eq_gt.mpr h, Int.compare_eq_gt.mpr (Int.mul_lt_mul_of_pos_right h hp)]
end Mine
end
section
open PySem PySem.W PyProof.Rows
set_option maxRecDepth 100000
namespace Mine
open PySem.Float64 PySem.Flt

theorem fdiv_pos (a : Int) (n : Nat) : a.fdiv (2 ^ n) = a / 2 ^ n := Int.fdiv_eq_ediv_of_nonneg _ (Int.le_of_lt (pow_pos' n))

theorem floorOf_val {x : UInt64} {s : Bool} {m : Nat} {e : Int} (h : decode x = .fin s m e) : floorOf s m e = val x / 2 ^ 1074 := by
  have he := decode_ge h
  rw [val_eq h, sgn_mul]
  unfold floorOf
  have hc : (((2 ^ (e + 1074).toNat : Nat)) : Int) = 2 ^ (e + 1074).toNat := by simp
  rw [hc]
  split
  · rename_i h1
    have e1 : (e + 1074).toNat = e.toNat + 1074 := by omega
    rw [e1, Int.pow_add, ← Int.mul_assoc, Int.mul_ediv_cancel _ (Int.ne_of_gt (pow_pos' 1074))]
  · rename_i h1
    rw [fdiv_pos]
    have e1 : (1074 : Nat) = (-e).toNat + (e + 1074).toNat := by omega
    have e2 : (2 : Int) ^ 1074 = 2 ^ (-e).toNat * 2 ^ (e + 1074).toNat := by rw [← Int.pow_add]; exact congrArg _ e1
    rw [e2]
    exact (Int.mul_ediv_mul_of_pos_left _ _ (pow_pos' _)).symm

theorem floorOf_neg {s : Bool} {m : Nat} {e : Int} (he : -1074 ≤ e) : floorOf (!s) m e = (-(sgn s m * 2 ^ (e + 1074).toNat)) / 2 ^ 1074 := by
  unfold floorOf
  rw [sgn_not]
  split
  · rename_i h1
    have e1 : (e + 1074).toNat = e.toNat + 1074 := by omega
    rw [e1, Int.pow_add, ← Int.mul_assoc, ← Int.neg_mul, Int.mul_ediv_cancel _ (Int.ne_of_gt (pow_pos' 1074)), Int.neg_mul]
  · rename_i h1
    rw [fdiv_pos]
    have e1 : (1074 : Nat) = (-e).toNat + (e + 1074).toNat := by omega
    have e2 : (2 : Int) ^ 1074 = 2 ^ (-e).toNat * 2 ^ (e + 1074).toNat := by rw [← Int.pow_add]; exact congrArg _ e1
    rw [e2, ← Int.neg_mul]
    exact (Int.mul_ediv_mul_of_pos_left _ _ (pow_pos' _)).symm

theorem ceilOf_val {x : UInt64} {s : Bool} {m : Nat} {e : Int} (h : decode x = .fin s m e) : ceilOf s m e = -(-val x / 2 ^ 1074) := by
  unfold ceilOf
  rw [floorOf_neg (decode_ge h), val_eq h, sgn_mul]
  have hc : (((2 ^ (e + 1074).toNat : Nat)) : Int) = 2 ^ (e + 1074).toNat := by simp
  rw [hc]

theorem half_div (k : Int) : (k * 2 ^ 1073) / 2 ^ 1074 = k / 2 := by
  rw [show (2 : Int) ^ 1074 = 2 * 2 ^ 1073 from by rw [show (1074 : Nat) = 1073 + 1 from rfl, Int.pow_succ, Int.mul_comm]]
  exact Int.mul_ediv_mul_of_pos_left _ _ (pow_pos' _)

theorem floor_hf {k : Int} (hk : k.natAbs ≤ 2 ^ 53) : toInt floorOf (hf k) = k / 2 := by
  obtain ⟨m, e, hd, hv⟩ := hf_decode hk
  rw [toInt_fin hd, floorOf_val hd, hv, half_div]
theorem ceil_hf {k : Int} (hk : k.natAbs ≤ 2 ^ 53) : toInt ceilOf (hf k) = -(-k / 2) := by
  obtain ⟨m, e, hd, hv⟩ := hf_decode hk
  rw [toInt_fin hd, ceilOf_val hd, hv, ← Int.neg_mul, half_div]
theorem trunc_hf {k : Int} (hk : k.natAbs ≤ 2 ^ 53) (h0 : 0 ≤ k) : toInt truncOf (hf k) = k / 2 := by
  obtain ⟨m, e, hd, hv⟩ := hf_decode hk
  rw [toInt_fin hd]
  unfold truncOf
  rw [if_neg (by simpa using h0), floorOf_val hd, hv, half_div]
theorem fin_hf {k : Int} (hk : k.natAbs ≤ 2 ^ 53) : isFinite (hf k) = true := by
  obtain ⟨m, e, hd, hv⟩ := hf_decode hk
  unfold isFinite; rw [hd]
theorem nan_hf {k : Int} (hk : k.natAbs ≤ 2 ^ 53) : ¬ isNaN (hf k) = true := by rw [not_nan_of_finite (fin_hf hk)]; decide
theorem inf_hf {k : Int} (hk : k.natAbs ≤ 2 ^ 53) : ¬ isInf (hf k) = true := by rw [not_inf_of_finite (fin_hf hk)]; decide

/-! a quotient n / d, rounded -/
def IsQ (x : UInt64) (n : Int) (d : Nat) : Prop := Right x (decide (n < 0)) (n.natAbs * 2 ^ 1074) d

theorem spacing (t : Nat) : 2 ^ 52 * V (t + 1) ≤ 2 ^ 52 * V t + V t + 2 ^ 52 := by
  obtain ⟨k, q, ht, hq, hor, hV⟩ := V_form t
  have e : t + 1 = k * 2 ^ 52 + (q + 1) := by omega
  have h2 := V_at (k := k) (q := q + 1) (by omega) (by omega)
  rw [e, h2, hV, Nat.add_mul, Nat.one_mul, Nat.mul_add]
  rcases hor with h | h
  · have : 2 ^ 52 * 2 ^ k ≤ q * 2 ^ k := Nat.mul_le_mul_right _ h
    omega
  · subst h; omega

theorem big_P : 2 ^ 104 < (2 : Nat) ^ 1074 := Nat.pow_lt_pow_right (by decide) (by decide)

/-- the float next to a / d: no whole number lies between them -/
theorem near_up {a d t K : Nat} (h : ∀ t', dist (a * 2 ^ 1074) (d * V t) ≤ dist (a * 2 ^ 1074) (d * V t')) (hd : 0 < d) (had : a + d ≤ 2 ^ 52) (hK : a < d * K) : V t < K * 2 ^ 1074 := by
  have hP := big_P
  by_cases hKb : K ≤ 2 ^ 52
  · obtain ⟨t1, ht1, hV1⟩ := rep (2 * K) (by omega)
    have hV1' : V t1 = K * 2 ^ 1074 := by rw [hV1, p1074]; generalize (2 : Nat) ^ 1073 = Z; rw [Nat.mul_comm 2 K, Nat.mul_assoc, Nat.mul_comm 2 Z]
    refine Nat.lt_of_not_le fun hge => ?_
    have ht1p : 0 < t1 := by
      refine Nat.pos_of_ne_zero fun h0 => ?_
      rw [h0, V_zero] at hV1'
      have hK0 : 0 < K := by
        refine Nat.pos_of_ne_zero fun h00 => ?_
        rw [h00, Nat.mul_zero] at hK; omega
      have := Nat.mul_pos hK0 (show 0 < (2 : Nat) ^ 1074 by omega)
      omega
    have hs := spacing (t1 - 1)
    have e1 : t1 - 1 + 1 = t1 := by omega
    rw [e1] at hs
    have hlt := V_lt (show t1 - 1 < t1 by omega)
    have h1 := h (t1 - 1)
    rw [← hV1'] at hge
    have k1 : d * V (t1 - 1) < d * V t1 := Nat.mul_lt_mul_of_pos_left hlt hd
    have k2 : d * V t1 ≤ d * V t := Nat.mul_le_mul_left _ hge
    have k3 : d * V t1 = d * K * 2 ^ 1074 := by rw [hV1', Nat.mul_assoc]
    have k4 : (a + 1) * 2 ^ 1074 ≤ d * K * 2 ^ 1074 := Nat.mul_le_mul_right _ hK
    rw [Nat.add_mul, Nat.one_mul] at k4
    have k5 : d * (2 ^ 52 * V t1) ≤ d * (2 ^ 52 * V (t1 - 1) + V (t1 - 1) + 2 ^ 52) := Nat.mul_le_mul_left _ hs
    have e2 : d * (2 ^ 52 * V t1) = 2 ^ 52 * (d * V t1) := by ac_rfl
    have e3 : d * (2 ^ 52 * V (t1 - 1) + V (t1 - 1) + 2 ^ 52) = 2 ^ 52 * (d * V (t1 - 1)) + d * V (t1 - 1) + 2 ^ 52 * d := by rw [Nat.mul_add, Nat.mul_add]; ac_rfl
    rw [e2, e3] at k5
    have k7 : a * 2 ^ 1074 + d * 2 ^ 1074 ≤ 2 ^ 52 * 2 ^ 1074 := by rw [← Nat.add_mul]; exact Nat.mul_le_mul_right _ had
    have k8 : d * 2 ^ 52 ≤ 2 ^ 104 := by
      have : d * 2 ^ 52 ≤ 2 ^ 52 * 2 ^ 52 := Nat.mul_le_mul_right _ (by omega)
      omega
    -- is K itself near enough to a / d
    by_cases hfar : (a + d) * 2 ^ 1074 < d * K * 2 ^ 1074
    · have hd1 := h t1
      by_cases hK1 : d * (K - 1) * 2 ^ 1074 ≤ d * K * 2 ^ 1074
      · obtain ⟨t2, ht2, hV2⟩ := rep (2 * (a / d)) (by
          have : a / d ≤ a := Nat.div_le_self _ _
          omega)
        have hV2' : V t2 = a / d * 2 ^ 1074 := by rw [hV2, p1074]; generalize (2 : Nat) ^ 1073 = Z; rw [Nat.mul_comm 2 (a / d), Nat.mul_assoc, Nat.mul_comm 2 Z]
        have hd2 := h t2
        have q1 : d * V t2 = d * (a / d) * 2 ^ 1074 := by rw [hV2', Nat.mul_assoc]
        have q2 : d * (a / d) ≤ a := Nat.mul_div_le a d
        have q3 : a < d * (a / d) + d := by
          have := Nat.lt_mul_div_succ a hd
          rw [Nat.mul_add, Nat.mul_one] at this
          exact this
        have q4 : d * (a / d) * 2 ^ 1074 ≤ a * 2 ^ 1074 := Nat.mul_le_mul_right _ q2
        have q5 : a * 2 ^ 1074 < (d * (a / d) + d) * 2 ^ 1074 := Nat.mul_lt_mul_of_pos_right q3 (by omega)
        rw [Nat.add_mul] at q5 hfar
        unfold dist at hd2
        rw [q1] at hd2
        generalize d * (a / d) * 2 ^ 1074 = Y at *
        generalize d * K * 2 ^ 1074 = Z at *
        generalize a * 2 ^ 1074 = X at *
        generalize d * 2 ^ 1074 = W at *
        omega
      · exact absurd (Nat.mul_le_mul_right _ (Nat.mul_le_mul_left _ (Nat.sub_le K 1))) hK1
    · rw [Nat.add_mul] at hfar
      unfold dist at h1
      rw [← k3] at *
      generalize d * V t1 = Z at *
      generalize d * V (t1 - 1) = Y at *
      generalize d * V t = T at *
      generalize a * 2 ^ 1074 = X at *
      generalize d * 2 ^ 1074 = W at *
      generalize (2 : Nat) ^ 1074 = P at *
      omega
  · refine Nat.lt_of_not_le fun hge => ?_
    obtain ⟨t2, ht2, hV2⟩ := rep (2 * (a / d)) (by
      have : a / d ≤ a := Nat.div_le_self _ _
      omega)
    have hV2' : V t2 = a / d * 2 ^ 1074 := by rw [hV2, p1074]; generalize (2 : Nat) ^ 1073 = Z; rw [Nat.mul_comm 2 (a / d), Nat.mul_assoc, Nat.mul_comm 2 Z]
    have hd2 := h t2
    have q1 : d * V t2 = d * (a / d) * 2 ^ 1074 := by rw [hV2', Nat.mul_assoc]
    have q2 : d * (a / d) ≤ a := Nat.mul_div_le a d
    have q3 : a < d * (a / d) + d := by
      have := Nat.lt_mul_div_succ a hd
      rw [Nat.mul_add, Nat.mul_one] at this
      exact this
    have q4 : d * (a / d) * 2 ^ 1074 ≤ a * 2 ^ 1074 := Nat.mul_le_mul_right _ q2
    have q5 : a * 2 ^ 1074 < (d * (a / d) + d) * 2 ^ 1074 := Nat.mul_lt_mul_of_pos_right q3 (by omega)
    have q6 : d * (2 ^ 52 * 2 ^ 1074) ≤ d * V t := Nat.mul_le_mul_left _ (Nat.le_trans (Nat.mul_le_mul_right _ (by omega)) hge)
    have q7 : a * 2 ^ 1074 + d * 2 ^ 1074 ≤ 2 ^ 52 * 2 ^ 1074 := by rw [← Nat.add_mul]; exact Nat.mul_le_mul_right _ had
    have q8 : d * (2 ^ 52 * 2 ^ 1074) = 2 ^ 52 * (d * 2 ^ 1074) := by ac_rfl
    have q9 : 1 * 2 ^ 1074 ≤ d * 2 ^ 1074 := Nat.mul_le_mul_right _ hd
    rw [q8] at q6
    rw [Nat.add_mul] at q5
    unfold dist at hd2
    rw [q1] at hd2
    generalize d * (a / d) * 2 ^ 1074 = Y at *
    generalize d * V t = Z at *
    generalize a * 2 ^ 1074 = X at *
    generalize d * 2 ^ 1074 = W at *
    generalize (2 : Nat) ^ 1074 = P at *
    omega
theorem repP (K : Nat) (hK : K ≤ 2 ^ 52) : ∃ t, V t = K * 2 ^ 1074 := by
  obtain ⟨t, _, h⟩ := rep (2 * K) (by omega)
  refine ⟨t, ?_⟩
  rw [h, p1074]; generalize (2 : Nat) ^ 1073 = Z; rw [Nat.mul_comm 2 K, Nat.mul_assoc, Nat.mul_comm 2 Z]

theorem near_lo {a d t K : Nat} (h : ∀ t', dist (a * 2 ^ 1074) (d * V t) ≤ dist (a * 2 ^ 1074) (d * V t')) (hd : 0 < d) (had : a + d ≤ 2 ^ 52) (hK : d * K ≤ a) : K * 2 ^ 1074 ≤ V t := by
  have hKa : K ≤ a := Nat.le_trans (Nat.le_mul_of_pos_left _ hd) hK
  obtain ⟨t', hV⟩ := repP K (by omega)
  refine Nat.le_of_not_lt fun hlt => ?_
  have h1 := h t'
  rw [← hV] at hlt
  have k1 : d * V t < d * V t' := Nat.mul_lt_mul_of_pos_left hlt hd
  have k2 : d * V t' ≤ a * 2 ^ 1074 := by rw [hV, ← Nat.mul_assoc]; exact Nat.mul_le_mul_right _ hK
  unfold dist at h1
  generalize a * 2 ^ 1074 = X at *
  omega

theorem near_hi {a d t K : Nat} (h : ∀ t', dist (a * 2 ^ 1074) (d * V t) ≤ dist (a * 2 ^ 1074) (d * V t')) (hd : 0 < d) (hKb : K ≤ 2 ^ 52) (hK : a ≤ d * K) : V t ≤ K * 2 ^ 1074 := by
  obtain ⟨t', hV⟩ := repP K hKb
  refine Nat.le_of_not_lt fun hlt => ?_
  have h1 := h t'
  rw [← hV] at hlt
  have k1 : d * V t' < d * V t := Nat.mul_lt_mul_of_pos_left hlt hd
  have k2 : a * 2 ^ 1074 ≤ d * V t' := by rw [hV, ← Nat.mul_assoc]; exact Nat.mul_le_mul_right _ hK
  unfold dist at h1
  generalize a * 2 ^ 1074 = X at *
  omega

theorem near_dn {a d t K : Nat} (h : ∀ t', dist (a * 2 ^ 1074) (d * V t) ≤ dist (a * 2 ^ 1074) (d * V t')) (hd : 0 < d) (had : a + d ≤ 2 ^ 52) (hK : d * K < a) : K * 2 ^ 1074 < V t := by
  have hP := big_P
  have hKa : K ≤ a := Nat.le_trans (Nat.le_mul_of_pos_left _ hd) (Nat.le_of_lt hK)
  obtain ⟨t1, hV1⟩ := repP K (by omega)
  refine Nat.lt_of_not_le fun hge => ?_
  have hs := spacing t1
  have hlt := V_lt (show t1 < t1 + 1 by omega)
  have h1 := h (t1 + 1)
  rw [← hV1] at hge
  have k1 : d * V t1 < d * V (t1 + 1) := Nat.mul_lt_mul_of_pos_left hlt hd
  have k2 : d * V t ≤ d * V t1 := Nat.mul_le_mul_left _ hge
  have k3 : d * V t1 = d * K * 2 ^ 1074 := by rw [hV1, Nat.mul_assoc]
  have k4 : (d * K + 1) * 2 ^ 1074 ≤ a * 2 ^ 1074 := Nat.mul_le_mul_right _ hK
  rw [Nat.add_mul, Nat.one_mul] at k4
  have k5 : d * (2 ^ 52 * V (t1 + 1)) ≤ d * (2 ^ 52 * V t1 + V t1 + 2 ^ 52) := Nat.mul_le_mul_left _ hs
  have e2 : d * (2 ^ 52 * V (t1 + 1)) = 2 ^ 52 * (d * V (t1 + 1)) := by ac_rfl
  have e3 : d * (2 ^ 52 * V t1 + V t1 + 2 ^ 52) = 2 ^ 52 * (d * V t1) + d * V t1 + 2 ^ 52 * d := by rw [Nat.mul_add, Nat.mul_add]; ac_rfl
  rw [e2, e3] at k5
  have k7 : a * 2 ^ 1074 + d * 2 ^ 1074 ≤ 2 ^ 52 * 2 ^ 1074 := by rw [← Nat.add_mul]; exact Nat.mul_le_mul_right _ had
  have k8 : d * 2 ^ 52 ≤ 2 ^ 104 := by
    have : d * 2 ^ 52 ≤ 2 ^ 52 * 2 ^ 52 := Nat.mul_le_mul_right _ (by omega)
    omega
  unfold dist at h1
  rw [← k3] at *
  generalize d * V t1 = Z at *
  generalize d * V (t1 + 1) = Y at *
  generalize d * V t = T at *
  generalize a * 2 ^ 1074 = X at *
  generalize d * 2 ^ 1074 = W at *
  generalize (2 : Nat) ^ 1074 = P at *
  omega

theorem isQ_near {x : UInt64} {n : Int} {d : Nat} (h : IsQ x n d) (hd : 0 < d) (hb : n.natAbs + d ≤ 2 ^ 52) :
    ∃ t m e, decode x = .fin (decide (n < 0)) m e ∧ val x = sgn (decide (n < 0)) (V t) ∧ ∀ t', dist (n.natAbs * 2 ^ 1074) (d * V t) ≤ dist (n.natAbs * 2 ^ 1074) (d * V t') := by
  obtain ⟨t, h1, h2, h3⟩ := right_fin h hd (by
    have e : (2 : Nat) ^ 1200 = 2 ^ 126 * 2 ^ 1074 := by rw [← Nat.pow_add]
    rw [e, ← Nat.mul_assoc]
    refine Nat.mul_le_mul_right _ (Nat.le_trans (show n.natAbs ≤ 1 * 2 ^ 126 by omega) (Nat.mul_le_mul_right _ hd)))
  obtain ⟨m, e, hdec, _⟩ := decode_pack (decide (n < 0)) h2
  have hv := val_pack (decide (n < 0)) h2
  rw [← h1] at hdec hv
  exact ⟨t, m, e, hdec, hv, h3⟩

theorem ediv_of {v P K : Int} (hP : 0 < P) (h1 : K * P ≤ v) (h2 : v < (K + 1) * P) : v / P = K := by
  have a1 : K ≤ v / P := (Int.le_ediv_iff_mul_le hP).mpr h1
  have a2 : v / P < K + 1 := (Int.ediv_lt_iff_lt_mul hP).mpr h2
  omega

theorem val_between {x : UInt64} {n : Int} {d : Nat} (h : IsQ x n d) (hd : 0 < d) (hb : n.natAbs + d ≤ 2 ^ 52) :
    ∃ m e, decode x = .fin (decide (n < 0)) m e ∧ val x / 2 ^ 1074 = n / d ∧ -val x / 2 ^ 1074 = -n / d := by
  obtain ⟨t, m, e, hdec, hv, hn⟩ := isQ_near h hd hb
  refine ⟨m, e, hdec, ?_⟩
  have hP := pow_pos' 1074
  have eP : (2 : Int) ^ 1074 = ((2 ^ 1074 : Nat) : Int) := pow_cast 1074
  have hdi : (0 : Int) < (d : Int) := by omega
  -- the magnitude
  have a0 : (n.natAbs / d) * d ≤ n.natAbs := Nat.div_mul_le_self _ _
  have a1 : n.natAbs < d * (n.natAbs / d + 1) := by have := Nat.lt_mul_div_succ n.natAbs hd; exact this
  have m1 := near_lo hn hd hb (K := n.natAbs / d) (by rw [Nat.mul_comm]; exact a0)
  have m2 := near_up hn hd hb (K := n.natAbs / d + 1) a1
  have c1 : ((V t : Nat) : Int) / 2 ^ 1074 = (n.natAbs : Int) / d := by
    rw [eP]
    norm_cast
    refine Nat.div_eq_of_lt_le ?_ ?_
    · exact m1
    · exact m2
  have c2 : -((V t : Nat) : Int) / 2 ^ 1074 = -(n.natAbs : Int) / d := by
    by_cases hz : d * (n.natAbs / d) = n.natAbs
    · have m3 := near_hi hn hd (K := n.natAbs / d) (by have := Nat.div_le_self n.natAbs d; omega) (by omega)
      have e1 : V t = (n.natAbs / d) * 2 ^ 1074 := Nat.le_antisymm m3 m1
      have e2 : (n.natAbs : Int) = ((n.natAbs / d : Nat) : Int) * (d : Int) := by
        rw [← Int.natCast_mul, Nat.mul_comm, hz]
      rw [e1, eP, e2, Int.natCast_mul, ← Int.neg_mul, ← Int.neg_mul, Int.mul_ediv_cancel _ (by rw [← eP]; omega), Int.mul_ediv_cancel _ (by omega)]
    · have hlt : d * (n.natAbs / d) < n.natAbs := by
        have := Nat.mul_div_le n.natAbs d
        omega
      have m3 := near_dn hn hd hb hlt
      have e1 : -((V t : Nat) : Int) / 2 ^ 1074 = -((n.natAbs / d : Nat) : Int) - 1 := by
        refine ediv_of hP ?_ ?_
        · rw [eP]
          have : ((V t : Nat) : Int) ≤ (((n.natAbs / d + 1) * 2 ^ 1074 : Nat) : Int) := Int.ofNat_le.mpr (Nat.le_of_lt m2)
          rw [Int.natCast_mul] at this
          have e3 : ((n.natAbs / d + 1 : Nat) : Int) = ((n.natAbs / d : Nat) : Int) + 1 := by omega
          rw [e3] at this
          have e4 : (-((n.natAbs / d : Nat) : Int) - 1) * ((2 ^ 1074 : Nat) : Int) = -((((n.natAbs / d : Nat) : Int) + 1) * ((2 ^ 1074 : Nat) : Int)) := by
            rw [← Int.neg_mul]; congr 1; omega
          rw [e4]
          generalize (((n.natAbs / d : Nat) : Int) + 1) * ((2 ^ 1074 : Nat) : Int) = Y at *
          omega
        · rw [eP]
          have : (((n.natAbs / d) * 2 ^ 1074 : Nat) : Int) < ((V t : Nat) : Int) := Int.ofNat_lt.mpr m3
          rw [Int.natCast_mul] at this
          have e4 : (-((n.natAbs / d : Nat) : Int) - 1 + 1) * ((2 ^ 1074 : Nat) : Int) = -(((n.natAbs / d : Nat) : Int) * ((2 ^ 1074 : Nat) : Int)) := by
            rw [← Int.neg_mul]; congr 1; omega
          rw [e4]
          generalize ((n.natAbs / d : Nat) : Int) * ((2 ^ 1074 : Nat) : Int) = Y at *
          omega
      rw [e1]
      refine (ediv_of hdi ?_ ?_).symm
      · have : ((n.natAbs : Nat) : Int) ≤ ((d * (n.natAbs / d + 1) : Nat) : Int) := Int.ofNat_le.mpr (Nat.le_of_lt a1)
        rw [Int.natCast_mul] at this
        have e3 : ((n.natAbs / d + 1 : Nat) : Int) = ((n.natAbs / d : Nat) : Int) + 1 := by omega
        rw [e3] at this
        have e4 : (-((n.natAbs / d : Nat) : Int) - 1) * (d : Int) = -((d : Int) * (((n.natAbs / d : Nat) : Int) + 1)) := by
          rw [Int.mul_comm (d : Int), ← Int.neg_mul]; congr 1; omega
        rw [e4]
        generalize (d : Int) * (((n.natAbs / d : Nat) : Int) + 1) = Y at *
        omega
      · have : ((d * (n.natAbs / d) : Nat) : Int) < ((n.natAbs : Nat) : Int) := Int.ofNat_lt.mpr hlt
        rw [Int.natCast_mul] at this
        have e4 : (-((n.natAbs / d : Nat) : Int) - 1 + 1) * (d : Int) = -((d : Int) * ((n.natAbs / d : Nat) : Int)) := by
          rw [Int.mul_comm (d : Int), ← Int.neg_mul]; congr 1; omega
        rw [e4]
        generalize (d : Int) * ((n.natAbs / d : Nat) : Int) = Y at *
        omega
  rw [hv]
  unfold sgn
  by_cases h : n < 0
  · have e1 : n = -((n.natAbs : Nat) : Int) := by omega
    rw [if_pos (by simpa using h)]
    constructor
    · rw [c2, ← e1]
    · rw [Int.neg_neg, c1]; congr 1; omega
  · have e1 : n = ((n.natAbs : Nat) : Int) := by omega
    rw [if_neg (by simpa using h)]
    constructor
    · rw [c1, ← e1]
    · rw [c2, ← e1]

theorem floor_Q {x : UInt64} {n : Int} {d : Nat} (h : IsQ x n d) (hd : 0 < d) (hb : n.natAbs + d ≤ 2 ^ 52) : toInt floorOf x = n / d := by
  obtain ⟨m, e, hdec, h1, _⟩ := val_between h hd hb
  rw [toInt_fin hdec, floorOf_val hdec, h1]
theorem ceil_Q {x : UInt64} {n : Int} {d : Nat} (h : IsQ x n d) (hd : 0 < d) (hb : n.natAbs + d ≤ 2 ^ 52) : toInt ceilOf x = -(-n / d) := by
  obtain ⟨m, e, hdec, _, h1⟩ := val_between h hd hb
  rw [toInt_fin hdec, ceilOf_val hdec, h1]
theorem fin_Q {x : UInt64} {n : Int} {d : Nat} (h : IsQ x n d) (hd : 0 < d) (hb : n.natAbs + d ≤ 2 ^ 52) : isFinite x = true := by
  obtain ⟨m, e, hdec, _, h1⟩ := val_between h hd hb
  unfold isFinite; rw [hdec]

theorem isQ_frac (n : Int) (d : Nat) (hd : 0 < d) : IsQ (ofFrac (decide (n < 0)) n.natAbs d) n d := ofFrac_right hd rfl hd

theorem isQ_div {a b : Int} (ha : a.natAbs ≤ 2 ^ 53) (hb : b.natAbs ≤ 2 ^ 53) (hb0 : 0 < b) : IsQ (div (hf a) (hf b)) a b.natAbs := by
  obtain ⟨m, e, hd, hv⟩ := hf_decode ha
  obtain ⟨m', e', hd', hv'⟩ := hf_decode hb
  have hk : m' ≠ 0 := by
    intro h0
    subst h0
    have := val_natAbs hd'
    rw [hv', pow_cast, hf_mag, Nat.zero_mul] at this
    have h3 := Nat.mul_pos (show 0 < b.natAbs by omega) (Nat.two_pow_pos 1073)
    omega
  have h := div_right hd hd' hk
  rw [hv, hv', pow_cast, hf_mag, hf_mag] at h
  have e1 : (decide (a < 0) != decide (b < 0)) = decide (a < 0) := by
    have : ¬ b < 0 := by omega
    simp [this]
  rw [e1] at h
  unfold IsQ
  obtain ⟨t, h1, h2, h3, h4⟩ := h
  have hz : ∀ X Y : Nat, dist (a.natAbs * 2 ^ 1073 * X) (b.natAbs * 2 ^ 1073 * Y) = 2 ^ 1073 * dist (a.natAbs * X) (b.natAbs * Y) := by
    intro X Y
    rw [← dist_mul]
    congr 1
    · ac_rfl
    · ac_rfl
  have hp : 0 < (2 : Nat) ^ 1073 := Nat.two_pow_pos _
  refine ⟨t, h1, h2, ?_, fun ht t' => ?_⟩
  · rw [h3]
    have l1 : b.natAbs * 2 ^ 1073 * ((2 ^ 54 - 1) * 2 ^ 2045) = 2 ^ 1073 * (b.natAbs * ((2 ^ 54 - 1) * 2 ^ 2045)) := by
      generalize (2 ^ 54 - 1) * 2 ^ 2045 = Y
      ac_rfl
    have l2 : 2 * (a.natAbs * 2 ^ 1073 * 2 ^ 1074) = 2 ^ 1073 * (2 * (a.natAbs * 2 ^ 1074)) := by
      generalize (2 : Nat) ^ 1074 = Y
      ac_rfl
    rw [l1, l2]
    exact ⟨fun h => Nat.le_of_mul_le_mul_left h hp, fun h => Nat.mul_le_mul_left _ h⟩
  · obtain ⟨k1, k2⟩ := h4 ht t'
    rw [hz, hz] at k1 k2
    exact ⟨Nat.le_of_mul_le_mul_left k1 hp, fun hne heq => k2 hne (by rw [heq])⟩
end Mine
end
section
open PySem PySem.W PyProof.Rows
set_option maxRecDepth 100000
namespace Mine
open PySem.Float64 PySem.Flt

theorem fmod_hf {a b : Int} (ha : a.natAbs ≤ 2 ^ 53) (hb : b.natAbs ≤ 2 ^ 53) (hb0 : 0 < b) :
    ∃ t, t < infMag ∧ V t = (a.natAbs % b.natAbs) * 2 ^ 1073 ∧ fmod (hf a) (hf b) = pack (decide (a < 0)) t := by
  obtain ⟨m, e, hd, hv⟩ := hf_decode ha
  obtain ⟨k, f, hd', hv'⟩ := hf_decode hb
  have na := val_natAbs hd
  have nb := val_natAbs hd'
  rw [hv, pow_cast, hf_mag] at na
  rw [hv', pow_cast, hf_mag] at nb
  have he := decode_ge hd
  have hf' := decode_ge hd'
  have hk : k ≠ 0 := by
    intro h0
    subst h0
    rw [Nat.zero_mul] at nb
    have h3 := Nat.mul_pos (show 0 < b.natAbs by omega) (Nat.two_pow_pos 1073)
    omega
  have hlt : a.natAbs % b.natAbs ≤ 2 ^ 53 := Nat.le_trans (Nat.mod_le _ _) ha
  obtain ⟨t, ht, hV⟩ := rep _ hlt
  refine ⟨t, ht, hV, ?_⟩
  have hm : fmod (hf a) (hf b) = ofBin (decide (a < 0)) (((m * 2 ^ (e - min e f).toNat) % (k * 2 ^ (f - min e f).toNat))) (min e f) := by
    unfold fmod
    rw [hd, hd']
    simp only
    rw [if_neg (by simpa using hk)]
    unfold align sgn
    simp only [Bool.false_eq_true, if_false, Int.toNat_natCast]
  rw [hm]
  unfold ofBin
  have hr : Right (ofFrac (decide (a < 0)) (shift ((m * 2 ^ (e - min e f).toNat) % (k * 2 ^ (f - min e f).toNat)) 1 (min e f)).1 (shift ((m * 2 ^ (e - min e f).toNat) % (k * 2 ^ (f - min e f).toNat)) 1 (min e f)).2) (decide (a < 0)) ((a.natAbs % b.natAbs) * 2 ^ 1073) 1 := by
    refine ofFrac_right (shift_pos _ _ _ (by decide)) ?_ (by decide)
    have := shift_one ((m * 2 ^ (e - min e f).toNat) % (k * 2 ^ (f - min e f).toNat)) (min e f) 1074 (by omega)
    rw [Nat.mul_one, this]
    congr 1
    have e0 : (min e f + ((1074 : Nat) : Int)).toNat = (min e f + 1074).toNat := by omega
    rw [e0, ← Nat.mul_mod_mul_right, Nat.mul_assoc, Nat.mul_assoc, ← Nat.pow_add, ← Nat.pow_add]
    have e1 : (e - min e f).toNat + (min e f + 1074).toNat = (e + 1074).toNat := by omega
    have e2 : (f - min e f).toNat + (min e f + 1074).toNat = (f + 1074).toNat := by omega
    rw [e1, e2, ← na, ← nb, Nat.mul_mod_mul_right]
  refine right_exact hr (by decide) ?_ (by rw [hV, Nat.one_mul])
  rw [Nat.one_mul]
  exact pow_le_1200 hlt

theorem isZero_pack {s : Bool} {t : Nat} (ht : t < infMag) : isZero (pack s t) = decide (V t = 0) := by
  obtain ⟨m, e, hd, hv⟩ := decode_pack s ht
  unfold isZero
  rw [hd]
  cases m with
  | zero => simp at hv; simp [← hv]
  | succ k =>
    have : V t ≠ 0 := by
      rw [← hv]
      exact Nat.ne_of_gt (Nat.mul_pos (by omega) (Nat.two_pow_pos _))
    simp [this]

theorem signBit_hf {b : Int} (hb : b.natAbs ≤ 2 ^ 53) : signBit (hf b) = decide (b < 0) := by
  obtain ⟨t, ht, _, he⟩ := hf_pack b hb
  have hi : infMag = 2047 * 2 ^ 52 := rfl
  rw [he]
  unfold signBit
  rw [pack_toNat _ (by omega)]
  by_cases h : b < 0
  · simp only [h, decide_true, if_true]; simp; omega
  · simp only [h, decide_false, Bool.false_eq_true, if_false]; simp; omega

theorem copysign_zero {b : Int} (hb : b.natAbs ≤ 2 ^ 53) (hb0 : 0 < b) : copysign (zero false) (hf b) = hf 0 := by
  unfold copysign
  rw [if_neg (by decide +kernel), signBit_hf hb, hf_zero, show decide (b < 0) = false by simp; omega]
  decide +kernel

theorem zero_hf : (zero false) = hf 0 := hf_zero.symm

theorem lt_hf {a b : Int} (ha : a.natAbs ≤ 2 ^ 53) (hb : b.natAbs ≤ 2 ^ 53) : lt (hf a) (hf b) = decide (a < b) := by
  unfold lt
  rw [cmp_hf ha hb]
  rcases Int.lt_trichotomy a b with h | h | h
  · rw [Int.compare_eq_lt.mpr h]; simp [h]
  · subst h; simp
  · rw [Int.compare_eq_gt.mpr h]; simp; omega

theorem mod_hf {a b : Int} (ha : a.natAbs ≤ 2 ^ 53) (hb : b.natAbs ≤ 2 ^ 53) (hb0 : 0 < b) : (divmod (hf a) (hf b)).2 = hf (a % b) := by
  obtain ⟨t, ht, hV, hm⟩ := fmod_hf ha hb hb0
  have hmlt : a.natAbs % b.natAbs < b.natAbs := Nat.mod_lt _ (by omega)
  have hmod : ∀ c : Int, c.natAbs = a.natAbs % b.natAbs → (c ≠ 0) → (c < 0 ↔ a < 0) → fmod (hf a) (hf b) = hf c := by
    intro c h1 h2 h3
    obtain ⟨t', _, hV', he'⟩ := hf_pack c (by omega)
    rw [hm, he']
    have : t = t' := V_inj (by rw [hV, hV', h1])
    rw [this, show decide (a < 0) = decide (c < 0) from decide_eq_decide.mpr h3.symm]
  have he : a % b = if a < 0 then (if a.natAbs % b.natAbs = 0 then 0 else b - ((a.natAbs % b.natAbs : Nat) : Int)) else ((a.natAbs % b.natAbs : Nat) : Int) := by
    have e1 : b = ((b.natAbs : Nat) : Int) := by omega
    by_cases h : a < 0
    · rw [if_pos h]
      have e2 : a = -((a.natAbs : Nat) : Int) := by omega
      by_cases hz : a.natAbs % b.natAbs = 0
      · rw [if_pos hz, e2, e1]
        refine Int.emod_eq_zero_of_dvd ?_
        refine Int.dvd_neg.mpr ?_
        exact Int.ofNat_dvd.mpr (Nat.dvd_of_mod_eq_zero hz)
      · rw [if_neg hz]
        have e3 := Nat.div_add_mod a.natAbs b.natAbs
        have e4 : a = (b - ((a.natAbs % b.natAbs : Nat) : Int)) + b * (-((a.natAbs / b.natAbs : Nat) : Int) - 1) := by
          have : ((a.natAbs : Nat) : Int) = ((b.natAbs : Nat) : Int) * ((a.natAbs / b.natAbs : Nat) : Int) + ((a.natAbs % b.natAbs : Nat) : Int) := by
            rw [← Int.natCast_mul, ← Int.natCast_add, e3]
          rw [← e1] at this
          have e5 : b * (-((a.natAbs / b.natAbs : Nat) : Int) - 1) = -(b * ((a.natAbs / b.natAbs : Nat) : Int)) - b := by
            rw [Int.mul_sub, Int.mul_neg, Int.mul_one]
          rw [e5]
          omega
        have e6 : (0 : Int) ≤ b - ((a.natAbs % b.natAbs : Nat) : Int) := by omega
        have e7 : b - ((a.natAbs % b.natAbs : Nat) : Int) < b := by omega
        conv => lhs; rw [e4]
        rw [Int.add_mul_emod_self_left]
        exact Int.emod_eq_of_lt e6 e7
    · rw [if_neg h]
      have e2 : a = ((a.natAbs : Nat) : Int) := by omega
      conv => lhs; rw [e2, e1]
      rw [← Int.natCast_emod]
  unfold divmod
  simp only
  by_cases hz : a.natAbs % b.natAbs = 0
  · have h1 : isZero (fmod (hf a) (hf b)) = true := by rw [hm, isZero_pack ht, hV, hz]; simp
    rw [h1, if_pos rfl]
    simp only
    rw [copysign_zero hb hb0, he, hz]
    simp
  · have h1 : isZero (fmod (hf a) (hf b)) = false := by
      rw [hm, isZero_pack ht, hV]
      have := Nat.mul_pos (Nat.pos_of_ne_zero hz) (Nat.two_pow_pos 1073)
      simp; omega
    rw [h1]
    simp only [Bool.false_eq_true, if_false]
    by_cases h : a < 0
    · have hc := hmod (-((a.natAbs % b.natAbs : Nat) : Int)) (by omega) (by omega) (by omega)
      rw [hc, zero_hf, lt_hf hb (by decide), lt_hf (by omega) (by decide)]
      have : (decide (b < 0) != decide (-((a.natAbs % b.natAbs : Nat) : Int) < 0)) = true := by
        have x1 : ¬ b < 0 := by omega
        have x2 : -((a.natAbs % b.natAbs : Nat) : Int) < 0 := by omega
        simp only [x1, x2, decide_true, decide_false]; rfl
      rw [this, if_pos rfl]
      simp only
      rw [add_hf (by omega) hb (by omega), he, if_pos h, if_neg hz]
      congr 1
      omega
    · have hc := hmod ((a.natAbs % b.natAbs : Nat) : Int) (by omega) (by omega) (by omega)
      rw [hc, zero_hf, lt_hf hb (by decide), lt_hf (by omega) (by decide)]
      have : (decide (b < 0) != decide (((a.natAbs % b.natAbs : Nat) : Int) < 0)) = false := by
        have x1 : ¬ b < 0 := by omega
        have x2 : ¬ (((a.natAbs % b.natAbs : Nat) : Int) < 0) := by omega
        simp only [x1, x2, decide_false]; rfl
      rw [this]
      simp only [Bool.false_eq_true, if_false]
      rw [he, if_neg h]

/-! the sum in the Gregorian day number -/
def gsum (m adj d : Int) : UInt64 := add (add (ofFrac (decide (367 * m - 362 < 0) != decide ((12 : Int) < 0)) (367 * m - 362).natAbs (12 : Int).natAbs) (ofInt adj)) (ofInt d)
def gok (m adj d : Int) : Bool := isFinite (gsum m adj d) && toInt floorOf (gsum m adj d) == (367 * m - 362) / 12 + adj + d
theorem gsum_all : ∀ m : Fin 12, ∀ a : Fin 3, ∀ d : Fin 31, gok (m.val + 1) (-a.val) (d.val + 1) = true := by decide +kernel
theorem gsum_ok {m adj d : Int} (hm : 1 ≤ m ∧ m ≤ 12) (ha : -2 ≤ adj ∧ adj ≤ 0) (hd : 1 ≤ d ∧ d ≤ 31) : gok m adj d = true := by
  have h := gsum_all ⟨(m - 1).toNat, by omega⟩ ⟨(-adj).toNat, by omega⟩ ⟨(d - 1).toNat, by omega⟩
  have e1 : (((m - 1).toNat : Nat) : Int) + 1 = m := by omega
  have e2 : -(((-adj).toNat : Nat) : Int) = adj := by omega
  have e3 : (((d - 1).toNat : Nat) : Int) + 1 = d := by omega
  simp only [e1, e2, e3] at h
  exact h
theorem gsum_fin {m adj d : Int} (hm : 1 ≤ m ∧ m ≤ 12) (ha : -2 ≤ adj ∧ adj ≤ 0) (hd : 1 ≤ d ∧ d ≤ 31) : isFinite (gsum m adj d) = true := by
  have := gsum_ok hm ha hd
  unfold gok at this
  simp only [Bool.and_eq_true] at this
  exact this.1
theorem gsum_floor {m adj d : Int} (hm : 1 ≤ m ∧ m ≤ 12) (ha : -2 ≤ adj ∧ adj ≤ 0) (hd : 1 ≤ d ∧ d ≤ 31) : toInt floorOf (gsum m adj d) = (367 * m - 362) / 12 + adj + d := by
  have := gsum_ok hm ha hd
  unfold gok at this
  simp only [Bool.and_eq_true, beq_iff_eq] at this
  exact this.2

theorem lit_g : (0x413a445180000000 : UInt64) = hf 3442851 := by decide +kernel
theorem lit_h : (0x41153d6e00000000 : UInt64) = hf 695991 := by decide +kernel
theorem lit_i : (0x413dbb1780000000 : UInt64) = hf 3896879 := by decide +kernel
theorem lit_half : (0x3fe0000000000000 : UInt64) = hf 1 := by decide +kernel
theorem lit_295 : (0x403d800000000000 : UInt64) = hf 59 := by decide +kernel
theorem lit_num : (0x40f80c0000000000 : UInt64) = hf 196992 := by decide +kernel
theorem lit_num2 : (0x40f80c0000000000 : UInt64) = hf (2 * 98496) := by decide +kernel
theorem lit_den : (0x41812785b8000000 : UInt64) = hf 71950702 := by decide +kernel
end Mine
end
section
open PySem PySem.W PyProof.Rows
set_option maxRecDepth 100000
namespace Mine
open PySem.Flt PySem.Spec PySem.Calls

/-- z is the float next to n / d -/
def IsZ (z : UInt64) (n d : Int) : Prop := 0 < d ∧ IsQ z n d.natAbs
theorem over_no {n : Int} (h : n.natAbs ≤ 2 ^ 53) : ¬ Over n := by
  intro ho
  have e : (2 : Nat) ^ 1024 = 2 ^ 54 * 2 ^ 970 := by rw [← Nat.pow_add]
  unfold Over at ho
  have h1 : 1 ≤ (2 : Nat) ^ 970 := Nat.two_pow_pos _
  rw [e] at ho
  generalize (2 : Nat) ^ 970 = K at *
  omega
theorem fits_1023 {n : Int} (h : n.natAbs ≤ 2 ^ 53) : n.natAbs < 2 ^ 1023 := Nat.lt_of_le_of_lt h (Nat.pow_lt_pow_right (by decide) (by decide))
theorem small_of {n : Int} (h : (2 * n).natAbs ≤ 2 ^ 53) : n.natAbs ≤ 2 ^ 53 := by omega

section
variable {prog : Program} {w : World} {A : Around} {E : Value → Shared → Prop} {s : Shared} {Q : Value → Shared → Prop} {x y : UInt64} {a b c n k : Int} {t u : Tok}

theorem m_mod (hb : 0 < b) (h : Q (.int (a % b) s.toks) { s with toks := s.toks + 1 }) : wpAny (model prog w) A (binaryOp .Mod (.int a t) (.int b u)) Q E s :=
  mod_int' (by omega) (by rw [Int.fmod_eq_emod_of_nonneg _ (by omega)]; exact h)
theorem m_fdiv (hb : 0 < b) (hs : b.natAbs < 1073741824) (h : Q (.int (a / b) s.toks) { s with toks := s.toks + 1 }) : wpAny (model prog w) A (binaryOp .FloorDiv (.int a t) (.int b u)) Q E s :=
  floordiv_int (by omega) (by rw [Int.fdiv_eq_ediv_of_nonneg _ (by omega)]; exact h) (Or.inl (PyProof.noPylong_small hs))
theorem m_divmod {h₀ : Heap} {L : Addr} {m : Str → Option Value} {news : List (Addr × Obj)} (F : Fr h₀ L s.heap m) (N : News h₀ L s.heap news) (hb : 0 < b) (hs : b.natAbs < 1073741824)
    (h : ∀ h', Fr h₀ L h' m → News h₀ L h' ((s.heap.objs.size, { cls := .type "tuple", data := .seq #[.int (a / b) s.toks, .int (a % b) (s.toks + 1)] }) :: news) →
      Q (.ref s.heap.objs.size) { s with toks := s.toks + 1 + 1, heap := h' }) :
    wpAny (model prog w) A (call (.builtin "divmod") [.int a t, .int b u]) Q E s :=
  divmod_N F N (by omega) (by rw [Int.fdiv_eq_ediv_of_nonneg _ (by omega), Int.fmod_eq_emod_of_nonneg _ (by omega)]; exact h) (Or.inl (PyProof.noPylong_small hs))

theorem m_add_fi (hx : x = hf a) (h1 : a.natAbs ≤ 2 ^ 53) (h2 : (2 * n).natAbs ≤ 2 ^ 53) (h3 : (a + 2 * n).natAbs ≤ 2 ^ 53)
    (h : Q (.float (hf (a + 2 * n)) s.toks) { s with toks := s.toks + 1 }) : wpAny (model prog w) A (binaryOp .Add (.float x t) (.int n u)) Q E s :=
  add_fi_fits (fits_1023 (small_of h2)) (by rw [hx, ofInt_hf h2, add_hf h1 h2 h3]; exact h)
theorem m_iadd_fi (hA : A.handled = none) (hx : x = hf a) (h1 : a.natAbs ≤ 2 ^ 53) (h2 : (2 * n).natAbs ≤ 2 ^ 53) (h3 : (a + 2 * n).natAbs ≤ 2 ^ 53)
    (h : Q (.float (hf (a + 2 * n)) s.toks) { s with toks := s.toks + 1 }) : wpAny (model prog w) A (inplaceOp .Add (.float x t) (.int n u)) Q E s :=
  iadd_fi hA (fun ho => absurd ho (over_no (small_of h2))) (fun _ => by rw [hx, ofInt_hf h2, add_hf h1 h2 h3]; exact h)
theorem m_add_if (hx : x = hf a) (h1 : a.natAbs ≤ 2 ^ 53) (h2 : (2 * n).natAbs ≤ 2 ^ 53) (h3 : (2 * n + a).natAbs ≤ 2 ^ 53)
    (h : Q (.float (hf (2 * n + a)) s.toks) { s with toks := s.toks + 1 }) : wpAny (model prog w) A (binaryOp .Add (.int n u) (.float x t)) Q E s :=
  add_if_fits (fits_1023 (small_of h2)) (by rw [hx, ofInt_hf h2, add_hf h2 h1 h3]; exact h)
theorem m_sub_fi (hx : x = hf a) (h1 : a.natAbs ≤ 2 ^ 53) (h2 : (2 * n).natAbs ≤ 2 ^ 53) (h3 : (a - 2 * n).natAbs ≤ 2 ^ 53)
    (h : Q (.float (hf (a - 2 * n)) s.toks) { s with toks := s.toks + 1 }) : wpAny (model prog w) A (binaryOp .Sub (.float x t) (.int n u)) Q E s :=
  sub_fi_fits (fits_1023 (small_of h2)) (by rw [hx, ofInt_hf h2, sub_hf h1 h2 h3]; exact h)
theorem m_add_ff (hx : x = hf a) (hy : y = hf b) (h1 : a.natAbs ≤ 2 ^ 53) (h2 : b.natAbs ≤ 2 ^ 53) (h3 : (a + b).natAbs ≤ 2 ^ 53)
    (h : Q (.float (hf (a + b)) s.toks) { s with toks := s.toks + 1 }) : wpAny (model prog w) A (binaryOp .Add (.float x t) (.float y u)) Q E s :=
  add_float (by rw [hx, hy, add_hf h1 h2 h3]; exact h)
theorem m_sub_ff (hx : x = hf a) (hy : y = hf b) (h1 : a.natAbs ≤ 2 ^ 53) (h2 : b.natAbs ≤ 2 ^ 53) (h3 : (a - b).natAbs ≤ 2 ^ 53)
    (h : Q (.float (hf (a - b)) s.toks) { s with toks := s.toks + 1 }) : wpAny (model prog w) A (binaryOp .Sub (.float x t) (.float y u)) Q E s :=
  sub_float (by rw [hx, hy, sub_hf h1 h2 h3]; exact h)
theorem m_mul_fi (hx : x = hf a) (h1 : a.natAbs ≤ 2 ^ 53) (h2 : (2 * n).natAbs ≤ 2 ^ 53) (h0 : 0 < n) (h3 : (a * n).natAbs ≤ 2 ^ 53)
    (h : Q (.float (hf (a * n)) s.toks) { s with toks := s.toks + 1 }) : wpAny (model prog w) A (binaryOp .Mult (.float x t) (.int n u)) Q E s :=
  mul_fi_fits (fits_1023 (small_of h2)) (by rw [hx, ofInt_hf h2, mul_hf h1 h2 (by omega) h3 (by rw [← Int.mul_assoc, Int.mul_comm a 2, Int.mul_assoc])]; exact h)
/-- a written half integer b times an int that is not below nought (its sign is plain) -/
theorem m_mul_fi' (hx : x = hf b) (h1 : b.natAbs ≤ 2 ^ 53) (h0 : 0 < b) (h2 : (2 * n).natAbs ≤ 2 ^ 53) (hn : 0 ≤ n) (h3 : (b * n).natAbs ≤ 2 ^ 53)
    (h : Q (.float (hf (b * n)) s.toks) { s with toks := s.toks + 1 }) : wpAny (model prog w) A (binaryOp .Mult (.float x t) (.int n u)) Q E s := by
  refine mul_fi_fits (fits_1023 (small_of h2)) ?_
  rw [hx, ofInt_hf h2]
  rcases Int.lt_or_eq_of_le hn with hn' | hn'
  · rw [mul_hf h1 h2 (by omega) h3 (by rw [← Int.mul_assoc, Int.mul_comm b 2, Int.mul_assoc])]; exact h
  · subst hn'
    have e : Float64.mul (hf b) (hf (2 * 0)) = hf (b * 0) := by
      obtain ⟨m, e, hd, hv⟩ := hf_decode h1
      obtain ⟨m', e', hd', hv'⟩ := hf_decode h2
      have hr := Float64.mul_right hd hd'
      rw [hv, hv', pow_cast, hf_mag, hf_mag] at hr
      have e1 : (decide (b < 0) != decide ((2 : Int) * 0 < 0)) = decide (b * 0 < 0) := by
        have : ¬ b < 0 := by omega
        simp [this]
      rw [e1] at hr
      refine right_hf hr h3 (Nat.two_pow_pos _) ?_
      simp
    rw [e]; exact h
theorem m_mul_if (hx : x = hf a) (h1 : a.natAbs ≤ 2 ^ 53) (h2 : (2 * n).natAbs ≤ 2 ^ 53) (h0 : 0 < a) (h3 : (n * a).natAbs ≤ 2 ^ 53)
    (h : Q (.float (hf (n * a)) s.toks) { s with toks := s.toks + 1 }) : wpAny (model prog w) A (binaryOp .Mult (.int n u) (.float x t)) Q E s :=
  mul_if_fits (fits_1023 (small_of h2)) (by rw [hx, ofInt_hf h2, mul_hf h2 h1 h0 h3 (by rw [Int.mul_assoc])]; exact h)
/-- a written positive int times a float of any sign but minus nought -/
theorem m_mul_if' (hx : x = hf a) (h1 : a.natAbs ≤ 2 ^ 53) (h2 : (2 * n).natAbs ≤ 2 ^ 53) (hn : 0 < n) (h3 : (n * a).natAbs ≤ 2 ^ 53)
    (h : Q (.float (hf (n * a)) s.toks) { s with toks := s.toks + 1 }) : wpAny (model prog w) A (binaryOp .Mult (.int n u) (.float x t)) Q E s := by
  refine mul_if_fits (fits_1023 (small_of h2)) ?_
  rw [hx, ofInt_hf h2]
  have e : Float64.mul (hf (2 * n)) (hf a) = hf (n * a) := by
    obtain ⟨m, e, hd, hv⟩ := hf_decode h2
    obtain ⟨m', e', hd', hv'⟩ := hf_decode h1
    have hr := Float64.mul_right hd hd'
    rw [hv, hv', pow_cast, hf_mag, hf_mag] at hr
    have e1 : (decide (2 * n < 0) != decide (a < 0)) = decide (n * a < 0) := by
      have h4 : ¬ 2 * n < 0 := by omega
      have h5 : n * a < 0 ↔ a < 0 := by rw [Int.mul_comm]; exact mul_pos_lt hn
      simp [h4, h5]
    rw [e1] at hr
    refine right_hf hr h3 (Nat.two_pow_pos _) ?_
    rw [p1074, Int.natAbs_mul, Int.natAbs_mul, show (2 : Int).natAbs = 2 from rfl]
    generalize (2 : Nat) ^ 1073 = K
    ac_rfl
  rw [e]; exact h
theorem m_mul_ff (hx : x = hf a) (hy : y = hf (2 * b)) (h1 : a.natAbs ≤ 2 ^ 53) (h2 : (2 * b).natAbs ≤ 2 ^ 53) (h0 : 0 < b) (h3 : (a * b).natAbs ≤ 2 ^ 53)
    (h : Q (.float (hf (a * b)) s.toks) { s with toks := s.toks + 1 }) : wpAny (model prog w) A (binaryOp .Mult (.float x t) (.float y u)) Q E s :=
  mul_float (by rw [hx, hy, mul_hf h1 h2 (by omega) h3 (by rw [← Int.mul_assoc, Int.mul_comm a 2, Int.mul_assoc])]; exact h)

theorem m_mod_fi (hA : A.handled = none) (hx : x = hf a) (h1 : a.natAbs ≤ 2 ^ 53) (h2 : (2 * n).natAbs ≤ 2 ^ 53) (h0 : 0 < n)
    (h : Q (.float (hf (a % (2 * n))) s.toks) { s with toks := s.toks + 1 }) : wpAny (model prog w) A (binaryOp .Mod (.float x t) (.int n u)) Q E s :=
  mod_fi hA (fun ho => absurd ho (over_no (small_of h2))) (fun hz => absurd hz (by omega)) (fun _ _ => by rw [hx, ofInt_hf h2, mod_hf h1 h2 (by omega)]; exact h)
theorem m_div_ii (hA : A.handled = none) (h0 : 0 < n) (h1 : a.natAbs ≤ 2 ^ 53)
    (h : ∀ z, IsZ z a n → Q (.float z s.toks) { s with toks := s.toks + 1 }) : wpAny (model prog w) A (binaryOp .Div (.int a t) (.int n u)) Q E s :=
  div_ii_fits hA (fits_1023 h1) (fun hz => absurd hz (by omega)) (fun _ _ => by
    refine h _ ?_
    have e1 : (decide (a < 0) != decide (n < 0)) = decide (a < 0) := by
      have : ¬ n < 0 := by omega
      simp [this]
    rw [e1]
    exact ⟨h0, isQ_frac a n.natAbs (by omega)⟩)
theorem m_div_fi (hA : A.handled = none) (hx : x = hf a) (h1 : a.natAbs ≤ 2 ^ 53) (h2 : (2 * n).natAbs ≤ 2 ^ 53) (h0 : 0 < n)
    (h : ∀ z, IsZ z a (2 * n) → Q (.float z s.toks) { s with toks := s.toks + 1 }) : wpAny (model prog w) A (binaryOp .Div (.float x t) (.int n u)) Q E s :=
  truediv_fi hA (fun ho => absurd ho (over_no (small_of h2))) (fun hz => absurd hz (by omega)) (fun _ _ => by
    rw [hx, ofInt_hf h2]
    exact h _ ⟨by omega, isQ_div h1 h2 (by omega)⟩)
theorem m_div_ff (hA : A.handled = none) (hx : x = hf a) (hy : y = hf b) (h1 : a.natAbs ≤ 2 ^ 53) (h2 : b.natAbs ≤ 2 ^ 53) (h0 : 0 < b)
    (h : ∀ z, IsZ z a b → Q (.float z s.toks) { s with toks := s.toks + 1 }) : wpAny (model prog w) A (binaryOp .Div (.float x t) (.float y u)) Q E s :=
  truediv_float_or hA (fun hz => by
      exfalso
      obtain ⟨t', ht, hV, he⟩ := hf_pack b h2
      rw [hy, he, isZero_pack ht, hV] at hz
      simp only [decide_eq_true_eq, Nat.mul_eq_zero] at hz
      have := Nat.two_pow_pos 1073
      rcases hz with hz | hz
      · omega
      · rw [hz] at this; omega) (fun _ => by
    rw [hx, hy]
    exact h _ ⟨h0, isQ_div h1 h2 h0⟩)

theorem m_floor_Q (hA : A.handled = none) (hq : IsZ x n k) (hb : n.natAbs + k.natAbs ≤ 2 ^ 52) (h : Q (.int (n / k) s.toks) { s with toks := s.toks + 1 }) :
    wpAny (model prog w) A (call (.builtin "math.floor") [.float x t]) Q E s := by
  obtain ⟨hk, hq⟩ := hq
  have hd : 0 < k.natAbs := by omega
  refine call_floor_float hA (fun hn => absurd hn (by rw [not_nan_of_finite (fin_Q hq hd hb)]; decide)) (fun hn => absurd hn (by rw [not_inf_of_finite (fin_Q hq hd hb)]; decide)) (fun _ => ?_)
  rw [floor_Q hq hd hb, show ((k.natAbs : Nat) : Int) = k by omega]; exact h
theorem m_ceil_Q (hA : A.handled = none) (hq : IsZ x n k) (hb : n.natAbs + k.natAbs ≤ 2 ^ 52) (h : Q (.int (-(-n / k)) s.toks) { s with toks := s.toks + 1 }) :
    wpAny (model prog w) A (call (.builtin "math.ceil") [.float x t]) Q E s := by
  obtain ⟨hk, hq⟩ := hq
  have hd : 0 < k.natAbs := by omega
  refine call_ceil_float hA (fun hn => absurd hn (by rw [not_nan_of_finite (fin_Q hq hd hb)]; decide)) (fun hn => absurd hn (by rw [not_inf_of_finite (fin_Q hq hd hb)]; decide)) (fun _ => ?_)
  rw [ceil_Q hq hd hb, show ((k.natAbs : Nat) : Int) = k by omega]; exact h
theorem m_floor (hA : A.handled = none) (hx : x = hf a) (h1 : a.natAbs ≤ 2 ^ 53) (h : Q (.int (a / 2) s.toks) { s with toks := s.toks + 1 }) :
    wpAny (model prog w) A (call (.builtin "math.floor") [.float x t]) Q E s := by
  subst hx
  exact call_floor_float hA (fun hn => absurd hn (nan_hf h1)) (fun hn => absurd hn (inf_hf h1)) (fun _ => by rw [floor_hf h1]; exact h)
theorem m_ceil (hA : A.handled = none) (hx : x = hf a) (h1 : a.natAbs ≤ 2 ^ 53) (h : Q (.int (-(-a / 2)) s.toks) { s with toks := s.toks + 1 }) :
    wpAny (model prog w) A (call (.builtin "math.ceil") [.float x t]) Q E s := by
  subst hx
  exact call_ceil_float hA (fun hn => absurd hn (nan_hf h1)) (fun hn => absurd hn (inf_hf h1)) (fun _ => by rw [ceil_hf h1]; exact h)
theorem m_int (hA : A.handled = none) (hx : x = hf a) (h1 : a.natAbs ≤ 2 ^ 53) (h0 : 0 ≤ a) (h : Q (.int (a / 2) s.toks) { s with toks := s.toks + 1 }) :
    wpAny (model prog w) A (call (.type "int") [.float x t]) Q E s := by
  subst hx
  exact call_int_float3 hA (fun hn => absurd hn (nan_hf h1)) (fun hn => absurd hn (inf_hf h1)) (fun _ => by rw [trunc_hf h1 h0]; exact h)
theorem m_floor_g (hA : A.handled = none) (hm : 1 ≤ a ∧ a ≤ 12) (hb : -2 ≤ b ∧ b ≤ 0) (hc : 1 ≤ c ∧ c ≤ 31) (hx : x = gsum a b c) (h : Q (.int ((367 * a - 362) / 12 + b + c) s.toks) { s with toks := s.toks + 1 }) :
    wpAny (model prog w) A (call (.builtin "math.floor") [.float x t]) Q E s := by
  subst hx
  exact call_floor_float hA (fun hn => absurd hn (by rw [not_nan_of_finite (gsum_fin hm hb hc)]; decide)) (fun hn => absurd hn (by rw [not_inf_of_finite (gsum_fin hm hb hc)]; decide)) (fun _ => by rw [gsum_floor hm hb hc]; exact h)

/-- the Gregorian sum, step by step -/
def gq (m : Int) : UInt64 := Float64.ofFrac (decide (367 * m - 362 < 0) != decide ((12 : Int) < 0)) (367 * m - 362).natAbs (12 : Int).natAbs
def gr (m adj : Int) : UInt64 := Float64.add (gq m) (Float64.ofInt adj)
theorem m_div_g (hA : A.handled = none) (h1 : (367 * a - 362).natAbs ≤ 2 ^ 53) (h : Q (.float (gq a) s.toks) { s with toks := s.toks + 1 }) :
    wpAny (model prog w) A (binaryOp .Div (.int (367 * a - 362) t) (.int 12 u)) Q E s :=
  div_ii_fits hA (fits_1023 h1) (fun hz => absurd hz (by omega)) (fun _ _ => h)
theorem m_add_gq (h2 : n.natAbs ≤ 2 ^ 53) (h : Q (.float (gr a n) s.toks) { s with toks := s.toks + 1 }) : wpAny (model prog w) A (binaryOp .Add (.float (gq a) t) (.int n u)) Q E s :=
  add_fi_fits (fits_1023 h2) h
theorem m_add_gr (h2 : n.natAbs ≤ 2 ^ 53) (h : Q (.float (gsum a b n) s.toks) { s with toks := s.toks + 1 }) : wpAny (model prog w) A (binaryOp .Add (.float (gr a b) t) (.int n u)) Q E s :=
  add_fi_fits (fits_1023 h2) h
/-! the same, with letters for what is reckoned -/
theorem m_floor_Qv (hA : A.handled = none) (hq : IsZ x n k) (hb : n.natAbs + k.natAbs ≤ 2 ^ 52) (h : ∀ q, q = n / k → k * q ≤ n → n < k * q + k → Q (.int q s.toks) { s with toks := s.toks + 1 }) :
    wpAny (model prog w) A (call (.builtin "math.floor") [.float x t]) Q E s := by
  refine m_floor_Q hA hq hb (h _ rfl ?_ ?_)
  · exact Int.mul_ediv_self_le (Int.ne_of_gt hq.1)
  · have := Int.lt_mul_ediv_self_add (x := n) hq.1
    exact this
theorem m_ceil_Qv (hA : A.handled = none) (hq : IsZ x n k) (hb : n.natAbs + k.natAbs ≤ 2 ^ 52) (h : ∀ q, q = -(-n / k) → n ≤ k * q → k * q < n + k → Q (.int q s.toks) { s with toks := s.toks + 1 }) :
    wpAny (model prog w) A (call (.builtin "math.ceil") [.float x t]) Q E s := by
  refine m_ceil_Q hA hq hb (h _ rfl ?_ ?_)
  · have := Int.mul_ediv_self_le (x := -n) (Int.ne_of_gt hq.1)
    rw [Int.mul_neg]; omega
  · have := Int.lt_mul_ediv_self_add (x := -n) hq.1
    rw [Int.mul_neg]; omega
theorem m_mod_fiv (hA : A.handled = none) (hx : x = hf a) (h1 : a.natAbs ≤ 2 ^ 53) (h2 : (2 * n).natAbs ≤ 2 ^ 53) (h0 : 0 < n)
    (h : ∀ r, r = a % (2 * n) → 0 ≤ r → r < 2 * n → Q (.float (hf r) s.toks) { s with toks := s.toks + 1 }) : wpAny (model prog w) A (binaryOp .Mod (.float x t) (.int n u)) Q E s :=
  m_mod_fi hA hx h1 h2 h0 (h _ rfl (Int.emod_nonneg _ (by omega)) (Int.emod_lt_of_pos _ (by omega)))

theorem ord_lt : (some (compare a b) == some Ordering.lt) = decide (a < b) := by
  rcases Int.lt_trichotomy a b with h | h | h
  · rw [Int.compare_eq_lt.mpr h]; simp [h]
  · subst h; simp
  · rw [Int.compare_eq_gt.mpr h]; simp; omega
theorem ord_gt : (some (compare a b) == some Ordering.gt) = decide (b < a) := by
  rcases Int.lt_trichotomy a b with h | h | h
  · rw [Int.compare_eq_lt.mpr h]; simp; omega
  · subst h; simp
  · rw [Int.compare_eq_gt.mpr h]; simp [h]
theorem ord_eq : (some (compare a b) == some Ordering.eq) = decide (a = b) := by
  rcases Int.lt_trichotomy a b with h | h | h
  · rw [Int.compare_eq_lt.mpr h]; simp; omega
  · subst h; simp
  · rw [Int.compare_eq_gt.mpr h]; simp; omega
theorem ord_ge : (some (compare a b) == some Ordering.gt || some (compare a b) == some Ordering.eq) = decide (b ≤ a) := by
  rw [ord_gt, ord_eq, ← Bool.decide_or]
  exact decide_eq_decide.mpr (by omega)

theorem m_gt_ff (hx : x = hf a) (hy : y = hf b) (h1 : a.natAbs ≤ 2 ^ 53) (h2 : b.natAbs ≤ 2 ^ 53) (h : Q (.bool (decide (b < a))) s) : wpAny (model prog w) A (compareOp .Gt (.float x t) (.float y u)) Q E s :=
  AutoFloatOps.gt_0 (by rw [hx, hy, cmp_hf h1 h2, ord_gt]; exact h)
theorem m_lt_ff (hx : x = hf a) (hy : y = hf b) (h1 : a.natAbs ≤ 2 ^ 53) (h2 : b.natAbs ≤ 2 ^ 53) (h : Q (.bool (decide (a < b))) s) : wpAny (model prog w) A (compareOp .Lt (.float x t) (.float y u)) Q E s :=
  AutoFloatOps.lt_0 (by rw [hx, hy, cmp_hf h1 h2, ord_lt]; exact h)
theorem m_ge_ff (hx : x = hf a) (hy : y = hf b) (h1 : a.natAbs ≤ 2 ^ 53) (h2 : b.natAbs ≤ 2 ^ 53) (h : Q (.bool (decide (b ≤ a))) s) : wpAny (model prog w) A (compareOp .GtE (.float x t) (.float y u)) Q E s :=
  AutoFloatOps.ge_0 (by rw [hx, hy, cmp_hf h1 h2, ord_ge]; exact h)
theorem m_lt_fi (hx : x = hf a) (h1 : a.natAbs ≤ 2 ^ 53) (h : Q (.bool (decide (a < 2 * n))) s) : wpAny (model prog w) A (compareOp .Lt (.float x t) (.int n u)) Q E s :=
  lt_fi (by rw [hx, cmpInt_hf h1, ord_lt]; exact h)
theorem m_eq_fi (hx : x = hf a) (h1 : a.natAbs ≤ 2 ^ 53) (h : Q (.bool (decide (a = 2 * n))) s) : wpAny (model prog w) A (compareOp .Eq (.float x t) (.int n u)) Q E s :=
  eq_fi (by rw [hx, cmpInt_hf h1, ord_eq]; exact h)
theorem m_ne_fi (hx : x = hf a) (h1 : a.natAbs ≤ 2 ^ 53) (h : Q (.bool (decide (a ≠ 2 * n))) s) : wpAny (model prog w) A (compareOp .NotEq (.float x t) (.int n u)) Q E s :=
  ne_fi (by
    have e : (some (compare a (2 * n)) != some Ordering.eq) = decide (a ≠ 2 * n) := by
      unfold bne
      rw [ord_eq]
      simp
    rw [hx, cmpInt_hf h1, e]; exact h)
end
end Mine
end
section
open PySem PySem.W PyProof.Rows
set_option maxRecDepth 100000
namespace Mine

/-! ## what the functions give back, as plain integer functions -/
def leapB (y : Int) : Bool := decide ((y * 7 + 1) % 19 < 7)
def months (y : Int) : Int := (235 * y - 234) / 19
def d1 (y : Int) : Int :=
  if 3 * ((months y * 29 + (12084 + 13753 * months y) / 25920) + 1) % 7 < 3 then (months y * 29 + (12084 + 13753 * months y) / 25920) + 1 else months y * 29 + (12084 + 13753 * months y) / 25920
def d2 (y : Int) : Int := if d1 (y + 1) - d1 y = 356 then 2 else if d1 y - d1 (y - 1) = 382 then 1 else 0
theorem d1_bound {y : Int} (h : -10 ≤ y ∧ y ≤ 100000000) : -6000 ≤ d1 y ∧ d1 y ≤ 40000000000 := by
  unfold d1 months
  split <;> omega
theorem d2_bound (y : Int) : 0 ≤ d2 y ∧ d2 y ≤ 2 := by unfold d2; split <;> (try split) <;> omega
def T (y : Int) : Int := d1 y + d2 y
def yd (y : Int) : Int := T (y + 1) - T y
theorem T_bound {y : Int} (h : -10 ≤ y ∧ y ≤ 100000000) : -6000 ≤ T y ∧ T y ≤ 40000000002 := by
  have := d1_bound h
  have := d2_bound y
  unfold T; omega
def ml (y m : Int) : Int :=
  if m = 2 ∨ m = 4 ∨ m = 6 ∨ m = 10 ∨ m = 13 then 29 else if m = 12 ∧ leapB y = false then 29 else if m = 8 ∧ yd y % 10 ≠ 5 then 29 else if m = 9 ∧ yd y % 10 = 3 then 29 else 30
theorem ml_bound (y m : Int) : 29 ≤ ml y m ∧ ml y m ≤ 30 := by unfold ml; repeat' split
                                                               all_goals omega
/-- the days of a year ahead of month m, counted from Tishri -/
def s7 (y m : Int) : Int := (if 7 < m then ml y 7 else 0) + (if 8 < m then ml y 8 else 0) + (if 9 < m then ml y 9 else 0) + (if 10 < m then ml y 10 else 0) + (if 11 < m then ml y 11 else 0) + (if 12 < m then ml y 12 else 0) + (if 13 < m then ml y 13 else 0)
def s1 (y m : Int) : Int := (if 1 < m then ml y 1 else 0) + (if 2 < m then ml y 2 else 0) + (if 3 < m then ml y 3 else 0) + (if 4 < m then ml y 4 else 0) + (if 5 < m then ml y 5 else 0)
def off (y m : Int) : Int := if m < 7 then s7 y (if leapB y = true then 14 else 13) + s1 y m else s7 y m
/-- the whole part of the Hebrew day number -/
def tj (y m d : Int) : Int := 347996 + T y + off y m + d
theorem T_bound2 {y : Int} (h : 1 ≤ y ∧ y ≤ 82000000) : -10 ≤ T y ∧ T y ≤ 30500000000 := by
  have h2 := d2_bound y
  unfold T d1 months
  split <;> omega
theorem s7_bound (y m : Int) : 0 ≤ s7 y m ∧ s7 y m ≤ 210 := by
  have h1 := ml_bound y 7
  have h2 := ml_bound y 8
  have h3 := ml_bound y 9
  have h4 := ml_bound y 10
  have h5 := ml_bound y 11
  have h6 := ml_bound y 12
  have h7 := ml_bound y 13
  have e : ∀ (c : Prop) [Decidable c] (x : Int), 29 ≤ x ∧ x ≤ 30 → 0 ≤ (if c then x else 0) ∧ (if c then x else 0) ≤ 30 := fun c _ x hx => by split <;> omega
  have g1 := e (7 < m) _ h1
  have g2 := e (8 < m) _ h2
  have g3 := e (9 < m) _ h3
  have g4 := e (10 < m) _ h4
  have g5 := e (11 < m) _ h5
  have g6 := e (12 < m) _ h6
  have g7 := e (13 < m) _ h7
  unfold s7
  omega
theorem s1_bound (y m : Int) : 0 ≤ s1 y m ∧ s1 y m ≤ 150 := by
  have h1 := ml_bound y 1
  have h2 := ml_bound y 2
  have h3 := ml_bound y 3
  have h4 := ml_bound y 4
  have h5 := ml_bound y 5
  have e : ∀ (c : Prop) [Decidable c] (x : Int), 29 ≤ x ∧ x ≤ 30 → 0 ≤ (if c then x else 0) ∧ (if c then x else 0) ≤ 30 := fun c _ x hx => by split <;> omega
  have g1 := e (1 < m) _ h1
  have g2 := e (2 < m) _ h2
  have g3 := e (3 < m) _ h3
  have g4 := e (4 < m) _ h4
  have g5 := e (5 < m) _ h5
  unfold s1
  omega
theorem off_bound (y m : Int) : 0 ≤ off y m ∧ off y m ≤ 360 := by
  have h1 := s7_bound y m
  have h2 := s7_bound y (if leapB y = true then 14 else 13)
  have h3 := s1_bound y m
  unfold off
  split <;> omega
theorem tj_bound {y m d : Int} (h : 1 ≤ y ∧ y ≤ 82000000) (hd : 1 ≤ d ∧ d ≤ 31) : 300000 ≤ tj y m d ∧ tj y m d ≤ 31000000000 := by
  have h1 := T_bound2 h
  have h2 := off_bound y m
  unfold tj
  omega
/-! Gregorian -/
def gl (y : Int) : Bool := y % 4 == 0 && (y % 100 != 0 || y % 400 == 0)
def dim (y m : Int) : Int := if m = 2 then (if gl y = true then 29 else 28) else if m = 4 ∨ m = 6 ∨ m = 9 ∨ m = 11 then 30 else 31
theorem dim_bound (y m : Int) : 28 ≤ dim y m ∧ dim y m ≤ 31 := by unfold dim; repeat' split
                                                                  all_goals omega
def gadj (y m : Int) : Int := if m ≤ 2 then 0 else if gl y = true then -1 else -2
def gj (y m d : Int) : Int := 1721424 + 365 * (y - 1) + (y - 1) / 4 - (y - 1) / 100 + (y - 1) / 400 + ((367 * m - 362) / 12 + gadj y m + d)
/-! Islamic -/
def ij (y m d : Int) : Int := 1948438 + (d + -(-(59 * (m - 1)) / 2)) + (y - 1) * 354 + (3 + 11 * y) / 30
theorem ijan (y : Int) : ij y 1 1 = 1948439 + (y - 1) * 354 + (3 + 11 * y) / 30 := by unfold ij; omega
theorem imon (y m d : Int) : ij y m d = ij y 1 1 - (-(59 * (m - 1)) / 2) + d - 1 := by unfold ij; omega
/-- a day of the Islamic calendar, as from_jd gives it back -/
structure IsIsl (N y m d : Int) : Prop where
  mon : 1 ≤ m ∧ m ≤ 12
  day : 1 ≤ d ∧ d ≤ 30 ∧ (m % 2 = 0 → m ≤ 10 → d ≤ 29)
  num : ij y m d = N
  doy : 0 ≤ N - ij y 1 1 ∧ N < ij (y + 1) 1 1
  rng : -6000 ≤ y ∧ y ≤ 95000000
end Mine
end
section
open PySem PySem.W PyProof.Rows
set_option maxRecDepth 100000
namespace Mine
/-- a def of the text, called with vs, gives back R, and changes nothing that stands; k: the frames that it wants -/
abbrev Cl (f : Addr) (k : Nat) (pre : Prop) (vs : List Value) (R : Tok → Value) : Prop :=
  ∀ {prog : Program} {w : World} {p : Program} {loose : List Str} {mean : ExcName → Option Value} {mg mb : Str → Option Value} {news : List (Addr × Obj)}
    {dp un : Nat} {gd : Option (List Code)} {cn : Str} {cs : Scope} {a : Addr} {ccd : Value} {cl : List (Str × Addr)} {outer : List Env} {A₀ : Around} {base h₀ : Heap} {L : Addr} {m : Str → Option Value} {s : Shared} {Q E : Value → Shared → Prop},
    Below A₀ base outer h₀ → Fr h₀ L s.heap m → (hd.heap_39 w.params).In h₀ → News h₀ L s.heap news → Top p loose mean mg mb h₀ → cs.kind = .function →
    pre → dp + k < recursionLimit → un + 8 * k < cLine →
    (∀ (t : Tok) (h' : Heap) (tk' : Nat), Fr h₀ L h' m → News h₀ L h' news → Q (R t) { s with heap := h', toks := tk' }) →
    wpAny (model prog w) (ktrTop dp un gd cn cs L a ccd cl outer) (call (.ref f) vs) Q E s
section
variable {h₀ h' : Heap} {L : Addr} {m : Str → Option Value} {news : List (Addr × Obj)} {s : Shared} {Q : Value → Shared → Prop} {t : Tok} {tk' : Nat}
theorem retI {x y : Int} (hret : ∀ (t : Tok) (h' : Heap) (tk' : Nat), Fr h₀ L h' m → News h₀ L h' news → Q (.int x t) { s with heap := h', toks := tk' }) (F : Fr h₀ L h' m) (N : News h₀ L h' news) (e : y = x) : Q (.int y t) { s with heap := h', toks := tk' } := by
  subst e
  exact hret t h' tk' F N
theorem retF {x y : Int} (hret : ∀ (t : Tok) (h' : Heap) (tk' : Nat), Fr h₀ L h' m → News h₀ L h' news → Q (.float (hf x) t) { s with heap := h', toks := tk' }) (F : Fr h₀ L h' m) (N : News h₀ L h' news) (e : y = x) : Q (.float (hf y) t) { s with heap := h', toks := tk' } := by
  subst e
  exact hret t h' tk' F N
theorem retB {x y : Bool} (hret : ∀ (t : Tok) (h' : Heap) (tk' : Nat), Fr h₀ L h' m → News h₀ L h' news → Q (.bool x) { s with heap := h', toks := tk' }) (F : Fr h₀ L h' m) (N : News h₀ L h' news) (e : y = x) : Q (.bool y) { s with heap := h', toks := tk' } := by
  subst e
  exact hret 0 h' tk' F N
end
/-- the same for a def that gives back a tuple of three ints -/
abbrev tup3 (y m d : Int) (t1 t2 t3 : Tok) : Obj := { cls := .type "tuple", data := .seq #[.int y t1, .int m t2, .int d t3] }
abbrev ClT (f : Addr) (k : Nat) (pre : Prop) (vs : List Value) (P : Int → Int → Int → Prop) : Prop :=
  ∀ {prog : Program} {w : World} {p : Program} {loose : List Str} {mean : ExcName → Option Value} {mg mb : Str → Option Value} {news : List (Addr × Obj)}
    {dp un : Nat} {gd : Option (List Code)} {cn : Str} {cs : Scope} {a : Addr} {ccd : Value} {cl : List (Str × Addr)} {outer : List Env} {A₀ : Around} {base h₀ : Heap} {L : Addr} {m : Str → Option Value} {s : Shared} {Q E : Value → Shared → Prop},
    Below A₀ base outer h₀ → Fr h₀ L s.heap m → (hd.heap_39 w.params).In h₀ → News h₀ L s.heap news → Top p loose mean mg mb h₀ → cs.kind = .function →
    pre → dp + k < recursionLimit → un + 8 * k < cLine →
    (∀ (y mo d : Int), P y mo d → ∀ (t1 t2 t3 : Tok) (q : Addr) (h' : Heap) (tk' : Nat), Fr h₀ L h' m → News h₀ L h' ((q, tup3 y mo d t1 t2 t3) :: news) → Q (.ref q) { s with heap := h', toks := tk' }) →
    wpAny (model prog w) (ktrTop dp un gd cn cs L a ccd cl outer) (call (.ref f) vs) Q E s
theorem offI_of {d : Addr} : ∀ {l : List (Addr × Obj)}, AllLt d l → ∀ p ∈ l, p.1 ≠ d
  | [], _ => fun _ h => nomatch h
  | _ :: _, x => fun p h => by
    rcases List.mem_cons.mp h with rfl | h
    · exact Nat.ne_of_lt x.1
    · exact offI_of x.2 p h
theorem off_of {d : Addr} {l : List (Addr × Obj)} (h : ∀ p ∈ l, p.1 < d) : ∀ p ∈ l, p.1 ≠ d := fun p hp => Nat.ne_of_lt (h p hp)
theorem hin_t {m : Int} (h : ([2, 4, 6, 10, 13].any fun x => x == m) = true) : m = 2 ∨ m = 4 ∨ m = 6 ∨ m = 10 ∨ m = 13 := by
  simp only [List.any_cons, List.any_nil, Bool.or_false, Bool.or_eq_true, beq_iff_eq] at h
  omega
theorem hin_f {m : Int} (h : ([2, 4, 6, 10, 13].any fun x => x == m) = false) : ¬ (m = 2 ∨ m = 4 ∨ m = 6 ∨ m = 10 ∨ m = 13) := by
  simp only [List.any_cons, List.any_nil, Bool.or_false, Bool.or_eq_false_iff, beq_eq_false_iff_ne] at h
  omega
end Mine
end
section
open PySem PySem.W PyProof.Rows
set_option maxRecDepth 100000
namespace Mine
open PySem.Calls PySem.Spec PyProof.V
theorem fillTop : (fun (_ : OpenLaw) (_ : Params → Frag) => True) PySem.Challenge.rw_ad5021_01 hd.heap_39 := by
  k_fill
  trivial
theorem tup43 {w : World} {h : Heap} (X : (hd.heap_39 w.params).In h) : IsTup h 43 #[.int 4 396, .int 6 397, .int 9 398, .int 11 399] := tupK (l := [.int 4 396, .int 6 397, .int 9 398, .int 11 399]) (n := 0) (dd := none) (sl := #[]) X rfl
theorem tup163 {w : World} {h : Heap} (X : (hd.heap_39 w.params).In h) : IsTup h 163 #[.int 0 609, .int 12 610, .int 24 611, .int 37 612, .int 49 613, .int 61 614, .int 74 615, .int 86 616, .int 99 617, .int 111 618, .int 123 619, .int 136 620,
  .int 148 621, .int 160 622, .int 173 623, .int 185 624, .int 197 625, .int 210 626, .int 222 627] :=
  tupK (l := [.int 0 609, .int 12 610, .int 24 611, .int 37 612, .int 49 613, .int 61 614, .int 74 615, .int 86 616, .int 99 617, .int 111 618, .int 123 619, .int 136 620,
  .int 148 621, .int 160 622, .int 173 623, .int 185 624, .int 197 625, .int 210 626, .int 222 627]) (n := 0) (dd := none) (sl := #[]) X rfl
theorem tup164 {w : World} {h : Heap} (X : (hd.heap_39 w.params).In h) : IsTup h 164 #[.int 2 629, .int 5 630, .int 7 631, .int 10 632, .int 13 633, .int 16 634, .int 18 635, .int 21 636, .int 24 637, .int 26 638, .int 29 639] :=
  tupK (l := [.int 2 629, .int 5 630, .int 7 631, .int 10 632, .int 13 633, .int 16 634, .int 18 635, .int 21 636, .int 24 637, .int 26 638, .int 29 639]) (n := 0) (dd := none) (sl := #[]) X rfl
theorem tup165 {w : World} {h : Heap} (X : (hd.heap_39 w.params).In h) : IsTup h 165 #[.int 1625189 641, .int 4061669 642, .int 4084946 643] := tupK (l := [.int 1625189 641, .int 4061669 642, .int 4084946 643]) (n := 0) (dd := none) (sl := #[]) X rfl
section
variable {prog : Program} {w : World} {A : Around} {E : Value → Shared → Prop} {s : Shared} {Q : Value → Shared → Prop} {h₀ : Heap} {L : Addr} {m : Str → Option Value} {x k : Int} {u : Tok}
theorem in43 (F : Fr h₀ L s.heap m) (X : (hd.heap_39 w.params).In h₀) (h : Q (.bool ([4, 6, 9, 11].any (· == x))) s) : wpAny (model prog w) A (compareOp .In (.int x u) (.ref 43)) Q E s :=
  in_tuple_ints (tup43 (X.keeps F.keep)) (by repeat constructor) h
theorem in164 (F : Fr h₀ L s.heap m) (X : (hd.heap_39 w.params).In h₀) (h : Q (.bool ([2, 5, 7, 10, 13, 16, 18, 21, 24, 26, 29].any (· == x))) s) : wpAny (model prog w) A (compareOp .In (.int x u) (.ref 164)) Q E s :=
  in_tuple_ints (tup164 (X.keeps F.keep)) (by repeat constructor) h
end
theorem h43t {m : Int} (h : ([4, 6, 9, 11].any fun x => x == m) = true) : m = 4 ∨ m = 6 ∨ m = 9 ∨ m = 11 := by
  simp only [List.any_cons, List.any_nil, Bool.or_false, Bool.or_eq_true, beq_iff_eq] at h
  omega
theorem h43f {m : Int} (h : ([4, 6, 9, 11].any fun x => x == m) = false) : ¬ (m = 4 ∨ m = 6 ∨ m = 9 ∨ m = 11) := by
  simp only [List.any_cons, List.any_nil, Bool.or_false, Bool.or_eq_false_iff, beq_eq_false_iff_ne] at h
  omega
theorem dim28 {y m : Int} (h : m = 2) (g : gl y = false) : dim y m = 28 := by subst h; simp [dim, g]
theorem dim29 {y m : Int} (h : m = 2) (g : gl y = true) : dim y m = 29 := by subst h; simp [dim, g]
theorem dim30 {y m : Int} (g : ([4, 6, 9, 11].any fun x => x == m) = true) : dim y m = 30 := by
  have := h43t g
  unfold dim
  rw [if_neg (by omega), if_pos this]
theorem dim31 {y m : Int} (h : m ≠ 2) (g : ([4, 6, 9, 11].any fun x => x == m) = false) : dim y m = 31 := by
  have := h43f g
  unfold dim
  rw [if_neg h, if_neg this]
end Mine
end
section
open PySem PySem.W PyProof.Rows
set_option maxRecDepth 100000
namespace Mine
open PySem.Calls PySem.Spec PyProof.V

theorem unrEnd_mono {h₀ : Heap} {L I : Addr} {it : Obj} {rest rest' : (Str → Option Value) → List (Addr × Obj) → Prop} {s₁ s₂ : Shared} (h : UnrEnd h₀ L s₁ I it rest s₂) (f : ∀ m n, rest m n → rest' m n) : UnrEnd h₀ L s₁ I it rest' s₂ :=
  let ⟨h', tk, m', n', e, F, N, o, r⟩ := h
  ⟨h', tk, m', n', e, F, N, o, f _ _ r⟩

section
variable {prog : Program} {w : World} {A : Around} {E : Value → Shared → Prop} {s : Shared} {env : Env} {h₀ : Heap} {x : Str} {body : List Stmt} {Q : Flow → Shared → Prop}

theorem rangeRest_of {I : Addr} {a : Int} {n : Nat} {news : List (Addr × Obj)} (J : Nat → (Str → Option Value) → Prop)
    (turn : ∀ i t m₁ h tk, i < n → J i m₁ → Fr h₀ env.locals h (fun y => if y = x then some (.int (a + (i : Int)) t) else m₁ y) → News h₀ env.locals h ((I, itR (a + ((i + 1 : Nat) : Int)) ((n : Int) - ((i + 1 : Nat) : Int))) :: news) →
      wpAny (model prog w) A (execs body env) (UnrPost h₀ env.locals { s with heap := h, toks := tk } I (itR (a + ((i + 1 : Nat) : Int)) ((n : Int) - ((i + 1 : Nat) : Int))) (fun m' n' => n' = news ∧ J (i + 1) m') Q) E { s with heap := h, toks := tk })
    (done : ∀ m₁ h tk, J n m₁ → Fr h₀ env.locals h m₁ → News h₀ env.locals h news → Q .next { s with heap := h, toks := tk }) :
    ∀ k i m, i + k = n → J i m → RangeRest prog w A E h₀ env x body Q s I a n k i m news := by
  intro k
  induction k with
  | zero =>
    intro i m hi hJ
    have : i = n := by omega
    subst this
    exact RangeRest.zero fun h tk F N => done m h tk hJ F N
  | succ k ih =>
    intro i m hi hJ
    refine RangeRest.succ fun t h tk F N => ?_
    refine wpAny_mono (turn i t m h tk (by omega) hJ F N) (fun f s₂ p => ?_) fun _ _ e => e
    have go : UnrEnd h₀ env.locals { s with heap := h, toks := tk } I (itR (a + ((i + 1 : Nat) : Int)) ((n : Int) - ((i + 1 : Nat) : Int))) (fun m' n' => n' = news ∧ J (i + 1) m') s₂ →
        UnrEnd h₀ env.locals { s with heap := h, toks := tk } I (itR (a + ((i + 1 : Nat) : Int)) ((n : Int) - ((i + 1 : Nat) : Int))) (RangeRest prog w A E h₀ env x body Q s I a n k (i + 1)) s₂ :=
      fun u => unrEnd_mono u fun m' n' ⟨e, hj⟩ => by subst e; exact ih (i + 1) m' (by omega) hj
    cases f with
    | ret v => exact p
    | brk => exact p
    | next => exact go p
    | cont => exact go p

theorem endF {o : Option Value} {a b : Int} {t : Tok} (h : o = some (.float (hf a) t)) (e : a = b) : ∃ t', o = some (.float (hf b) t') := ⟨t, by rw [← e]; exact h⟩
theorem rangeSize_up {a b : Int} (h : a ≤ b) : Builtin.Range.rangeSize a b 1 = ((b - a).toNat : Int) := by
  unfold Builtin.Range.rangeSize
  simp only [show (1 : Int) > 0 by decide, if_true]
  split <;> omega
/-- a sum of whole numbers, added to a float in a loop over a range -/
def accS (g : Int → Int) (a : Int) : Nat → Int
  | 0 => 0
  | n + 1 => accS g a n + g (a + (n : Int))
theorem accS_bound {g : Int → Int} (hg : ∀ k, 0 ≤ g k ∧ g k ≤ 30) (a : Int) : ∀ n : Nat, 0 ≤ accS g a n ∧ accS g a n ≤ 30 * (n : Int)
  | 0 => ⟨Int.le_refl 0, Int.le_refl 0⟩
  | n + 1 => by
    have h1 := accS_bound hg a n
    have h2 := hg (a + (n : Int))
    unfold accS
    omega
theorem iter_accF {r : Addr} {a₀ b₀ : Int} {t₀ u₀ v₀ : Tok} {m₀ : Str → Option Value} {news : List (Addr × Obj)} {y : Str} {k₀ : Int} {ty : Tok} (g : Int → Int) (hg : ∀ k, 0 ≤ g k ∧ g k ≤ 30)
    (hh : A.handled = none) (hr : IsRange s.heap r a₀ b₀ 1 t₀ u₀ v₀) (hb : -(2 ^ 62) ≤ a₀ ∧ a₀ ≤ b₀ ∧ b₀ < 2 ^ 62) (F : Fr h₀ env.locals s.heap m₀) (N : News h₀ env.locals s.heap news)
    (hy : m₀ y = some (.float (hf k₀) ty)) (hyx : y ≠ x)
    (turn : ∀ (i : Nat) t ta h tk I, (i : Int) < b₀ - a₀ → 0 ≤ accS g a₀ i ∧ accS g a₀ i ≤ 30 * (i : Int) → 0 ≤ g (a₀ + (i : Int)) ∧ g (a₀ + (i : Int)) ≤ 30 → (∀ p ∈ news, p.1 < I) → Fr h₀ env.locals h (fun z => if z = x then some (.int (a₀ + (i : Int)) t) else if z = y then some (.float (hf (k₀ + 2 * accS g a₀ i)) ta) else m₀ z) →
      News h₀ env.locals h ((I, itR (a₀ + ((i + 1 : Nat) : Int)) (((b₀ - a₀).toNat : Int) - ((i + 1 : Nat) : Int))) :: news) →
      wpAny (model prog w) A (execs body env) (UnrPost h₀ env.locals { s with heap := h, toks := tk } I (itR (a₀ + ((i + 1 : Nat) : Int)) (((b₀ - a₀).toNat : Int) - ((i + 1 : Nat) : Int))) (fun m' n' => n' = news ∧ (∃ t', m' y = some (.float (hf (k₀ + 2 * accS g a₀ (i + 1))) t')) ∧ ∀ z, z ≠ x → z ≠ y → m' z = m₀ z) Q) E { s with heap := h, toks := tk })
    (done : ∀ (u : Str → Option Value) t h tk, 0 ≤ accS g a₀ (b₀ - a₀).toNat ∧ accS g a₀ (b₀ - a₀).toNat ≤ 30 * (((b₀ - a₀).toNat : Nat) : Int) → Fr h₀ env.locals h (fun z => if z = x then u z else if z = y then some (.float (hf (k₀ + 2 * accS g a₀ (b₀ - a₀).toNat)) t) else m₀ z) → News h₀ env.locals h news → Q .next { s with heap := h, toks := tk }) :
    wpAny (model prog w) A (pyIter (.ref r)) (fun it s₂ => LoopAtV prog w A h₀ env x body Q E it s₂) E s := by
  have hsmall := small_one (a := a₀) (b := b₀) (by omega) (by omega) (by omega) (by omega)
  have hn := rangeSize_up hb.2.1
  refine iter_rangeUnr hh hr hsmall hn F N fun I hI => ?_
  refine rangeRest_of (fun i m => (∃ t, m y = some (.float (hf (k₀ + 2 * accS g a₀ i)) t)) ∧ ∀ z, z ≠ x → z ≠ y → m z = m₀ z) ?_ ?_ (b₀ - a₀).toNat 0 m₀ (by omega) ⟨⟨ty, by rw [hy]; simp [accS]⟩, fun _ _ _ => rfl⟩
  · rintro i t m₁ h tk hi ⟨⟨ta, ha⟩, hm⟩ F₁ N₁
    have e : (fun z => if z = x then some (Value.int (a₀ + (i : Int)) t) else m₁ z) = fun z => if z = x then some (Value.int (a₀ + (i : Int)) t) else if z = y then some (Value.float (hf (k₀ + 2 * accS g a₀ i)) ta) else m₀ z := by
      funext z
      by_cases h1 : z = x
      · simp [h1]
      · simp only [if_neg h1]
        by_cases h2 : z = y
        · subst h2; simp [ha]
        · simp only [if_neg h2]; exact hm z h1 h2
    rw [e] at F₁
    exact turn i t ta h tk I (by omega) (accS_bound hg _ _) (hg _) hI F₁ N₁
  · rintro m₁ h tk ⟨⟨ta, ha⟩, hm⟩ F₁ N₁
    refine done m₁ ta h tk (accS_bound hg _ _) ?_ N₁
    have e : m₁ = fun z => if z = x then m₁ z else if z = y then some (Value.float (hf (k₀ + 2 * accS g a₀ (b₀ - a₀).toNat)) ta) else m₀ z := by
      funext z
      by_cases h1 : z = x
      · simp [h1]
      · simp only [if_neg h1]
        by_cases h2 : z = y
        · subst h2; simp [ha]
        · simp only [if_neg h2]; exact hm z h1 h2
    rw [← e]; exact F₁
end
end Mine
end
section
open PySem PySem.W PyProof.Rows
set_option maxRecDepth 100000
namespace Mine

theorem gjan (Y : Int) : gj Y 1 1 = 1721425 + 365 * (Y - 1) + (Y - 1) / 4 - (Y - 1) / 100 + (Y - 1) / 400 := by
  unfold gj gadj
  rw [if_pos (by decide)]
  have : (367 * 1 - 362 : Int) / 12 = 0 := by decide
  rw [this]
  omega
theorem gmon (Y m d : Int) : gj Y m d = gj Y 1 1 + (367 * m - 362) / 12 + gadj Y m + d - 1 := by
  rw [gjan]
  unfold gj
  omega
/-- the days of the Gregorian calendar: what from_jd gives back -/
structure IsDate (N y m d : Int) : Prop where
  mon : 1 ≤ m ∧ m ≤ 12
  day : 1 ≤ d ∧ d ≤ dim y m
  num : gj y m d = N
  rng : -6000 ≤ y ∧ y ≤ 90000000

section
variable {N X q r c r2 k r3 yi Y : Int}
theorem jan_a (hX : X = 2 * ((2 * N + 1 - 1) / 2) + 1 - 3442851) (h1 : q = X / (2 * 146097)) (h2 : r = X % (2 * 146097)) (h3 : c = r / (2 * 36524)) (h4 : r2 = r % (2 * 36524)) (h5 : k = r2 / (2 * 1461)) (h6 : r3 = r2 % (2 * 1461)) (h7 : yi = r3 / (2 * 365))
    (hc : c ≠ 4) (hy : yi ≠ 4) (hY : Y = q * 400 + c * 100 + k * 4 + yi + 1) : 2 * gj Y 1 1 = 2 * N - r3 + 730 * yi := by
  rw [gjan]
  have e1 : 0 ≤ c ∧ c ≤ 3 := by omega
  have e2 : 0 ≤ k ∧ k ≤ 24 := by omega
  have e3 : 0 ≤ yi ∧ yi ≤ 3 := by omega
  have e4 : (Y - 1) / 4 = q * 100 + c * 25 + k := by omega
  have e5 : (Y - 1) / 100 = q * 4 + c := by omega
  have e6 : (Y - 1) / 400 = q := by omega
  rw [e4, e5, e6]
  omega
theorem jan_b (hX : X = 2 * ((2 * N + 1 - 1) / 2) + 1 - 3442851) (h1 : q = X / (2 * 146097)) (h2 : r = X % (2 * 146097)) (h3 : c = r / (2 * 36524)) (h4 : r2 = r % (2 * 36524)) (h5 : k = r2 / (2 * 1461)) (h6 : r3 = r2 % (2 * 1461)) (h7 : yi = r3 / (2 * 365))
    (hc : c = 4 ∨ yi = 4) (hY : Y = q * 400 + c * 100 + k * 4 + yi) : 2 * gj Y 1 1 = 2 * N - 730 := by
  rw [gjan]
  by_cases h4' : c = 4
  · have e1 : k = 0 ∧ yi = 0 ∧ r3 = 0 ∧ r2 = 0 := by omega
    have e4 : (Y - 1) / 4 = q * 100 + 99 := by omega
    have e5 : (Y - 1) / 100 = q * 4 + 3 := by omega
    have e6 : (Y - 1) / 400 = q := by omega
    rw [e4, e5, e6]
    omega
  · have e0 : yi = 4 := by omega
    have e1 : 0 ≤ c ∧ c ≤ 3 := by omega
    have e2 : 0 ≤ k ∧ k ≤ 24 := by omega
    have e4 : (Y - 1) / 4 = q * 100 + c * 25 + k := by omega
    have e5 : (Y - 1) / 100 = q * 4 + c := by omega
    have e6 : (Y - 1) / 400 = q := by omega
    rw [e4, e5, e6]
    omega
end
theorem gl_iff (Y : Int) : gl Y = true ↔ Y % 4 = 0 ∧ (Y % 100 ≠ 0 ∨ Y % 400 = 0) := by
  unfold gl
  simp
theorem jan_b_leap {N X q r c r2 k r3 yi Y : Int} (hX : X = 2 * ((2 * N + 1 - 1) / 2) + 1 - 3442851) (h2 : r = X % (2 * 146097)) (h3 : c = r / (2 * 36524)) (h4 : r2 = r % (2 * 36524)) (h5 : k = r2 / (2 * 1461)) (h6 : r3 = r2 % (2 * 1461)) (h7 : yi = r3 / (2 * 365))
    (hc : c = 4 ∨ yi = 4) (hY : Y = q * 400 + c * 100 + k * 4 + yi) : gl Y = true := by
  rw [gl_iff]
  by_cases h4' : c = 4
  · have e1 : k = 0 ∧ yi = 0 ∧ r3 = 0 ∧ r2 = 0 := by omega
    omega
  · have e0 : yi = 4 := by omega
    have e1 : 0 ≤ c ∧ c ≤ 3 := by omega
    have e2 : 0 ≤ k ∧ k ≤ 23 := by omega
    omega
/-- the month and the day within a year: yd the day of the year from nought on -/
theorem mon_ok {Y yd adj m : Int} (h0 : 0 ≤ yd ∧ yd ≤ 365) (hl : yd = 365 → gl Y = true)
    (ha : adj = if yd < 58 + (if gl Y = true then 1 else 0) then 0 else if gl Y = true then 1 else 2)
    (hm : m = ((yd + adj) * 12 + 373) / 367) : (1 ≤ m ∧ m ≤ 12) ∧ 0 ≤ yd - ((367 * m - 362) / 12 + gadj Y m) ∧ yd - ((367 * m - 362) / 12 + gadj Y m) + 1 ≤ dim Y m := by
  cases hg : gl Y with
  | true =>
    rw [hg] at ha
    simp only [if_true] at ha
    have hb : 1 ≤ m ∧ m ≤ 12 := by split at ha <;> omega
    refine ⟨hb, ?_⟩
    unfold gadj dim
    simp only [hg, if_true]
    have hm' : m = 1 ∨ m = 2 ∨ m = 3 ∨ m = 4 ∨ m = 5 ∨ m = 6 ∨ m = 7 ∨ m = 8 ∨ m = 9 ∨ m = 10 ∨ m = 11 ∨ m = 12 := by omega
    rcases hm' with h | h | h | h | h | h | h | h | h | h | h | h <;> rw [h] at hm ⊢ <;> simp <;> split at ha <;> omega
  | false =>
    rw [hg] at ha hl
    simp only [Bool.false_eq_true, if_false] at ha
    have h3 : yd ≤ 364 := by
      have : yd ≠ 365 := fun e => absurd (hl e) (by decide)
      omega
    have hb : 1 ≤ m ∧ m ≤ 12 := by split at ha <;> omega
    refine ⟨hb, ?_⟩
    unfold gadj dim
    simp only [hg, Bool.false_eq_true, if_false]
    have hm' : m = 1 ∨ m = 2 ∨ m = 3 ∨ m = 4 ∨ m = 5 ∨ m = 6 ∨ m = 7 ∨ m = 8 ∨ m = 9 ∨ m = 10 ∨ m = 11 ∨ m = 12 := by omega
    rcases hm' with h | h | h | h | h | h | h | h | h | h | h | h <;> rw [h] at hm ⊢ <;> simp <;> split at ha <;> omega

theorem mon_day {Y N H adj m : Int} (hH : 2 * gj Y 1 1 = H) (h0 : 0 ≤ 2 * N - H ∧ 2 * N - H ≤ 730) (hl : 2 * N - H = 730 → gl Y = true)
    (ha : adj = if 2 * N - H < 2 * (58 + (if gl Y = true then 1 else 0)) then 0 else if gl Y = true then 1 else 2)
    (hm : m = ((2 * N - H + 2 * adj) * 12 + 746) / 734) : ∃ D, (1 ≤ m ∧ m ≤ 12) ∧ (1 ≤ D ∧ D ≤ dim Y m) ∧ gj Y m D = N ∧ 2 * gj Y m 1 + 1 = 2 * (N - D) + 3 := by
  have ha' : adj = if N - gj Y 1 1 < 58 + (if gl Y = true then 1 else 0) then 0 else if gl Y = true then 1 else 2 := by
    rw [ha]
    cases gl Y with
    | true => simp only [if_true]; split <;> split <;> omega
    | false => simp only [Bool.false_eq_true, if_false]; split <;> split <;> omega
  obtain ⟨a, b, c⟩ := mon_ok (Y := Y) (yd := N - gj Y 1 1) (adj := adj) (m := m) (by omega) (fun e => hl (by omega)) ha' (by omega)
  refine ⟨N - gj Y 1 1 - ((367 * m - 362) / 12 + gadj Y m) + 1, a, ⟨by omega, c⟩, ?_, ?_⟩
  · rw [gmon]; omega
  · rw [gmon Y m 1]; omega
end Mine
end
section
namespace Mine
theorem isIsl_of {N Y q J K M D : Int} (hD : D = (2 * ((2 * N + 1) / 2) + 1 - (2 * (K - -(59 * (M - 1)) / 2 + 1 - 1) + 1)) / 2 + 1) (hM : M = if q + 1 < 12 then q + 1 else 12) (hK : K = ij Y 1 1)
    (fq : 2 * ((2 * N + 1) / 2) + 1 - (2 * 29 + (2 * (J - -(59 * (1 - 1)) / 2 + 1 - 1) + 1)) ≤ 59 * q)
    (gq : 59 * q < 2 * ((2 * N + 1) / 2) + 1 - (2 * 29 + (2 * (J - -(59 * (1 - 1)) / 2 + 1 - 1) + 1)) + 59)
    (hJ1 : J = ij Y 1 1) (hN : 300000 ≤ N ∧ N ≤ 32000000000)
    (f : 2 * 10631 * Y ≤ 30 * (2 * ((2 * N + 1) / 2) + 1 - 3896879) + 2 * 10646) (g : 30 * (2 * ((2 * N + 1) / 2) + 1 - 3896879) + 2 * 10646 < 2 * 10631 * Y + 2 * 10631) : IsIsl N Y M D := by
  have hJ2 := ijan Y
  have hJ3 := ijan (Y + 1)
  rw [← hJ1] at hJ2 hK
  subst hK
  have e1 : 2 * ((2 * N + 1) / 2) + 1 = 2 * N + 1 := by omega
  rw [e1] at *
  have e2 : -(59 * ((1 : Int) - 1)) / 2 = 0 := by decide
  rw [e2] at fq gq
  have hy : -6000 ≤ Y ∧ Y ≤ 95000000 := by omega
  have hd0 : 0 ≤ N - K := by omega
  have hd1 : N < ij (Y + 1) 1 1 := by rw [hJ3]; omega
  have hd2 : N - K ≤ 354 := by omega
  have hMb : 1 ≤ M ∧ M ≤ 12 := by split at hM <;> omega
  have hnum : ij Y M D = N := by rw [imon, ← hJ1, hD]; omega
  refine ⟨hMb, ?_, hnum, ⟨by rw [← hJ1]; exact hd0, hd1⟩, hy⟩
  clear hnum hd1 hJ3 hJ2 f g
  by_cases hc : q + 1 < 12
  · rw [if_pos hc] at hM
    refine ⟨by omega, by omega, fun _ _ => by omega⟩
  · rw [if_neg hc] at hM
    subst hM
    refine ⟨by omega, by omega, fun _ h => by omega⟩
end Mine
end
section
open PySem PySem.W PyProof.Rows
set_option maxRecDepth 100000
namespace Mine
open PySem.Calls PySem.Spec PyProof.V

/-- two names of a frame that go up by ones -/
def at2 (x1 x2 : Str) (a1 a2 : Int) (t1 t2 : Tok) (m₀ : Str → Option Value) : Str → Option Value :=
  fun z => if z = x1 then some (.int a1 t1) else if z = x2 then some (.int a2 t2) else m₀ z

def TestEnd (h₀ : Heap) (L : Addr) (m : Str → Option Value) (news : List (Addr × Obj)) (c : Bool) (s : Shared) (b : Bool) (s₂ : Shared) : Prop :=
  ∃ h' tk', s₂ = { s with heap := h', toks := tk' } ∧ Fr h₀ L h' m ∧ News h₀ L h' news ∧ b = c
def BodyEnd (h₀ : Heap) (L : Addr) (x1 x2 : Str) (a1 a2 : Int) (m₀ : Str → Option Value) (news : List (Addr × Obj)) (s : Shared) (f : Flow) (s₂ : Shared) : Prop :=
  f = .next ∧ ∃ h' tk' m', s₂ = { s with heap := h', toks := tk' } ∧ Fr h₀ L h' m' ∧ News h₀ L h' news ∧ (∃ t1, m' x1 = some (.int a1 t1)) ∧ (∃ t2, m' x2 = some (.int a2 t2)) ∧ ∀ z, z ≠ x1 → z ≠ x2 → m' z = m₀ z

section
variable {prog : Program} {w : World} {A : Around} {E : Value → Shared → Prop} {s : Shared} {env : Env} {h₀ : Heap} {test : PySem.Expr} {body : List Stmt} {Q : Flow → Shared → Prop} {L : Addr} {news : List (Addr × Obj)} {m₀ : Str → Option Value} {x1 x2 : Str} {a1 a2 : Int}

theorem at2_of {m' : Str → Option Value} {b1 b2 : Int} {t1 t2 : Tok} (h1 : m' x1 = some (.int b1 t1)) (h2 : m' x2 = some (.int b2 t2)) (h3 : ∀ z, z ≠ x1 → z ≠ x2 → m' z = m₀ z) : m' = at2 x1 x2 b1 b2 t1 t2 m₀ := by
  funext z
  unfold at2
  by_cases e1 : z = x1
  · rw [if_pos e1, e1, h1]
  · rw [if_neg e1]
    by_cases e2 : z = x2
    · rw [if_pos e2, e2, h2]
    · rw [if_neg e2]; exact h3 z e1 e2

theorem whl2 (n : Nat) (hE : PassesOwn (model prog w) A env E)
    (ht : ∀ (k : Nat) t1 t2 h tk, k ≤ n → Fr h₀ L h (at2 x1 x2 (a1 + k) (a2 + k) t1 t2 m₀) → News h₀ L h news →
      wpAny (model prog w) A (isTrue test env (eval test env)) (TestEnd h₀ L (at2 x1 x2 (a1 + k) (a2 + k) t1 t2 m₀) news (decide (k < n)) s) E { s with heap := h, toks := tk })
    (hb : ∀ (k : Nat) t1 t2 h tk, k < n → Fr h₀ L h (at2 x1 x2 (a1 + k) (a2 + k) t1 t2 m₀) → News h₀ L h news →
      wpAny (model prog w) A (execs body env) (BodyEnd h₀ L x1 x2 (a1 + k + 1) (a2 + k + 1) m₀ news s) E { s with heap := h, toks := tk })
    (done : ∀ t1 t2 h tk, Fr h₀ L h (at2 x1 x2 (a1 + n) (a2 + n) t1 t2 m₀) → News h₀ L h news → Q .next { s with heap := h, toks := tk }) :
    ∀ (j k : Nat) t1 t2 h tk, k + j = n → Fr h₀ L h (at2 x1 x2 (a1 + k) (a2 + k) t1 t2 m₀) → News h₀ L h news → WhlRest prog w A E env test body [] Q (j + 1) { s with heap := h, toks := tk } := by
  intro j
  induction j with
  | zero =>
    intro k t1 t2 h tk hk F N
    refine whl_turn hE (wpAny_mono (ht k t1 t2 h tk (by omega) F N) (fun b s₂ e => ?_) fun _ _ x => x)
    obtain ⟨h', tk', rfl, F', N', rfl⟩ := e
    have e1 : decide (k < n) = false := by simp; omega
    refine WhlIf.no e1 (wpAny_execs_nil ?_)
    have e2 : k = n := by omega
    subst e2
    exact done t1 t2 h' tk' F' N'
  | succ j ih =>
    intro k t1 t2 h tk hk F N
    refine whl_turn hE (wpAny_mono (ht k t1 t2 h tk (by omega) F N) (fun b s₂ e => ?_) fun _ _ x => x)
    obtain ⟨h', tk', rfl, F', N', rfl⟩ := e
    have e1 : decide (k < n) = true := by simp; omega
    refine WhlIf.yes e1 (wpAny_mono (hb k t1 t2 h' tk' (by omega) F' N') (fun f s₃ e => ?_) fun _ _ x => x)
    obtain ⟨rfl, h2, tk2, m', rfl, F2, N2, ⟨u1, g1⟩, ⟨u2, g2⟩, g3⟩ := e
    have e3 : m' = at2 x1 x2 (a1 + ((k + 1 : Nat) : Int)) (a2 + ((k + 1 : Nat) : Int)) u1 u2 m₀ := by
      refine at2_of ?_ ?_ g3
      · rw [g1]; congr 2; omega
      · rw [g2]; congr 2; omega
    rw [e3] at F2
    exact ih (k + 1) u1 u2 h2 tk2 (by omega) F2 N2

theorem while2 {pos : Pos} {t1 t2 : Tok} (n : Nat) (hE : PassesOwn (model prog w) A env E) (F : Fr h₀ L s.heap m₀) (N : News h₀ L s.heap news) (g1 : m₀ x1 = some (.int a1 t1)) (g2 : m₀ x2 = some (.int a2 t2))
    (ht : ∀ (k : Nat) t1 t2 h tk, k ≤ n → Fr h₀ L h (at2 x1 x2 (a1 + k) (a2 + k) t1 t2 m₀) → News h₀ L h news →
      wpAny (model prog w) A (isTrue test env (eval test env)) (TestEnd h₀ L (at2 x1 x2 (a1 + k) (a2 + k) t1 t2 m₀) news (decide (k < n)) s) E { s with heap := h, toks := tk })
    (hb : ∀ (k : Nat) t1 t2 h tk, k < n → Fr h₀ L h (at2 x1 x2 (a1 + k) (a2 + k) t1 t2 m₀) → News h₀ L h news →
      wpAny (model prog w) A (execs body env) (BodyEnd h₀ L x1 x2 (a1 + k + 1) (a2 + k + 1) m₀ news s) E { s with heap := h, toks := tk })
    (done : ∀ t1 t2 h tk, Fr h₀ L h (at2 x1 x2 (a1 + n) (a2 + n) t1 t2 m₀) → News h₀ L h news → Q .next { s with heap := h, toks := tk }) :
    wpAny (model prog w) A (exec (.While test body [] pos) env) Q E s := by
  have e : m₀ = at2 x1 x2 (a1 + ((0 : Nat) : Int)) (a2 + ((0 : Nat) : Int)) t1 t2 m₀ := by
    refine at2_of ?_ ?_ (fun _ _ _ => rfl)
    · rw [g1]; simp
    · rw [g2]; simp
  rw [e] at F
  exact whl_start (n + 1) (whl2 n hE ht hb done n 0 t1 t2 s.heap s.toks (by omega) F N)
theorem while2b {pos : Pos} {t1 t2 : Tok} (b : Int) (hE : PassesOwn (model prog w) A env E) (F : Fr h₀ L s.heap m₀) (N : News h₀ L s.heap news) (g1 : m₀ x1 = some (.int a1 t1)) (g2 : m₀ x2 = some (.int a2 t2)) (hab : a1 ≤ b)
    (ht : ∀ (k : Int) t1 t2 h tk, 0 ≤ k ∧ a1 + k ≤ b → Fr h₀ L h (at2 x1 x2 (a1 + k) (a2 + k) t1 t2 m₀) → News h₀ L h news →
      wpAny (model prog w) A (isTrue test env (eval test env)) (TestEnd h₀ L (at2 x1 x2 (a1 + k) (a2 + k) t1 t2 m₀) news (decide (a1 + k < b)) s) E { s with heap := h, toks := tk })
    (hb : ∀ (k : Int) t1 t2 h tk, 0 ≤ k ∧ a1 + k < b → Fr h₀ L h (at2 x1 x2 (a1 + k) (a2 + k) t1 t2 m₀) → News h₀ L h news →
      wpAny (model prog w) A (execs body env) (BodyEnd h₀ L x1 x2 (a1 + k + 1) (a2 + k + 1) m₀ news s) E { s with heap := h, toks := tk })
    (done : ∀ t1 t2 h tk, Fr h₀ L h (at2 x1 x2 b (a2 + (b - a1)) t1 t2 m₀) → News h₀ L h news → Q .next { s with heap := h, toks := tk }) :
    wpAny (model prog w) A (exec (.While test body [] pos) env) Q E s := by
  refine while2 (b - a1).toNat hE F N g1 g2 ?_ ?_ ?_
  · intro k t1 t2 h tk hk F N
    have e : decide (k < (b - a1).toNat) = decide (a1 + (k : Int) < b) := decide_eq_decide.mpr (by omega)
    rw [e]
    exact ht k t1 t2 h tk (by omega) F N
  · intro k t1 t2 h tk hk F N
    exact hb k t1 t2 h tk (by omega) F N
  · intro t1 t2 h tk F N
    have e : (((b - a1).toNat : Nat) : Int) = b - a1 := by omega
    rw [e, show a1 + (b - a1) = b by omega] at F
    exact done t1 t2 h tk F N
theorem testEnd_intro {m : Str → Option Value} {c b : Bool} {h' : Heap} {tk' : Nat} (F : Fr h₀ L h' m) (N : News h₀ L h' news) (e : b = c) : TestEnd h₀ L m news c s b { s with heap := h', toks := tk' } := ⟨h', tk', rfl, F, N, e⟩
theorem bodyEnd_intro {m' : Str → Option Value} {h' : Heap} {tk' : Nat} {t1 t2 : Tok} (F : Fr h₀ L h' m') (N : News h₀ L h' news) (e1 : m' x1 = some (.int a1 t1)) (e2 : m' x2 = some (.int a2 t2)) (e3 : ∀ z, z ≠ x1 → z ≠ x2 → m' z = m₀ z) :
    BodyEnd h₀ L x1 x2 a1 a2 m₀ news s .next { s with heap := h', toks := tk' } := ⟨rfl, h', tk', m', rfl, F, N, ⟨t1, e1⟩, ⟨t2, e2⟩, e3⟩
end
end Mine
end
section
open PySem PySem.W PyProof.Rows
namespace Mine
def first (m : Int) : Int := if 7 ≤ m then 7 else 1
/-- what from_jd of the Hebrew calendar needs to know of a day -/
structure HebOk (N y m d : Int) : Prop where
  yr : 1 ≤ y ∧ y ≤ 82000000
  mon : 1 ≤ m ∧ m ≤ 13
  day : 1 ≤ d ∧ d ≤ 30
  num : N = tj y m d
  rng : 300000 ≤ N ∧ N ≤ 31000000000
  cnt : 35975351 * (y - 2) ≤ (N - 347995) * 98496 ∧ (N - 347995) * 98496 < 35975351 * (y + 1)
  tish : ∀ i, y - 2 ≤ i → i ≤ y + 1 → (347997 + T i ≤ N ↔ i ≤ y)
  nis : N < tj y 1 1 ↔ 7 ≤ m
  mons : ∀ i, first m ≤ i → i ≤ m → (tj y i (ml y i) < N ↔ i < m)
theorem tj_day (y m d : Int) : tj y m d = tj y m 1 + d - 1 := by unfold tj; omega
theorem tj7 (y : Int) : tj y 7 1 = 347997 + T y := by unfold tj off s7; simp; omega
theorem first_le {m : Int} (h : 1 ≤ m ∧ m ≤ 13) : 1 ≤ first m ∧ first m ≤ m ∧ first m ≤ 7 := by unfold first; split <;> omega
section
variable {N X y m d i : Int}
theorem tst1 (H : HebOk N y m d) (hX : X = 2 * N + 1) (h1 : y - 2 ≤ i) (h2 : i ≤ y + 1) : decide (2 * tj i 7 1 + 1 ≤ X) = decide (i < y + 1) := by
  have := H.tish i h1 h2
  rw [tj7]
  exact decide_eq_decide.mpr (by omega)
theorem tst2 (H : HebOk N y m d) (hX : X = 2 * N + 1) (h1 : first m ≤ i) (h2 : i ≤ m) : decide (2 * tj y i (ml y i) + 1 < X) = decide (i < m) := by
  have := H.mons i h1 h2
  exact decide_eq_decide.mpr (by omega)
end
end Mine
end
section
open PySem PySem.W PyProof.Rows
set_option maxRecDepth 100000
namespace Mine
open PySem.Float64 PySem.Flt
theorem right_scale {r : UInt64} {neg : Bool} {W D c : Nat} (hc : 0 < c) : Right r neg (c * W) (c * D) ↔ Right r neg W D := by
  have hz : ∀ Y : Nat, dist (c * W) (c * D * Y) = c * dist W (D * Y) := by
    intro Y
    rw [← dist_mul, Nat.mul_assoc]
  have l1 : ∀ Y : Nat, c * D * Y = c * (D * Y) := fun Y => Nat.mul_assoc _ _ _
  have l2 : 2 * (c * W) = c * (2 * W) := by ac_rfl
  unfold Right
  constructor
  · rintro ⟨t, h1, h2, h3, h4⟩
    refine ⟨t, h1, h2, ?_, fun ht t' => ?_⟩
    · rw [h3, l1, l2]
      exact ⟨fun h => Nat.le_of_mul_le_mul_left h hc, fun h => Nat.mul_le_mul_left _ h⟩
    · obtain ⟨k1, k2⟩ := h4 ht t'
      rw [hz, hz] at k1 k2
      exact ⟨Nat.le_of_mul_le_mul_left k1 hc, fun hne heq => k2 hne (by rw [heq])⟩
  · rintro ⟨t, h1, h2, h3, h4⟩
    refine ⟨t, h1, h2, ?_, fun ht t' => ?_⟩
    · rw [h3, l1, l2]
      exact ⟨fun h => Nat.mul_le_mul_left _ h, fun h => Nat.le_of_mul_le_mul_left h hc⟩
    · obtain ⟨k1, k2⟩ := h4 ht t'
      rw [hz, hz]
      exact ⟨Nat.mul_le_mul_left _ k1, fun hne heq => k2 hne (Nat.eq_of_mul_eq_mul_left hc heq)⟩
theorem isZ_half {x : UInt64} {n k : Int} (h : IsZ x (2 * n) (2 * k)) : IsZ x n k := by
  obtain ⟨h1, h2⟩ := h
  refine ⟨by omega, ?_⟩
  unfold IsQ at h2 ⊢
  have e1 : decide (2 * n < 0) = decide (n < 0) := decide_eq_decide.mpr (by omega)
  have e2 : (2 * n).natAbs * 2 ^ 1074 = 2 * (n.natAbs * 2 ^ 1074) := by rw [Int.natAbs_mul, Nat.mul_assoc]; rfl
  have e3 : (2 * k).natAbs = 2 * k.natAbs := by rw [Int.natAbs_mul]; rfl
  rw [e1, e2, e3] at h2
  exact (right_scale (by decide)).mp h2
section
variable {prog : Program} {w : World} {A : Around} {E : Value → Shared → Prop} {s : Shared} {Q : Value → Shared → Prop} {x : UInt64} {n k a : Int} {t u : Tok}
theorem m_floor_Qh (hA : A.handled = none) (hq : IsZ x n k) (hn : n % 2 = 0) (hk : k % 2 = 0) (hb : n.natAbs + k.natAbs ≤ 2 ^ 53) (h : ∀ q, q = n / k → k * q ≤ n → n < k * q + k → Q (.int q s.toks) { s with toks := s.toks + 1 }) :
    wpAny (model prog w) A (call (.builtin "math.floor") [.float x t]) Q E s := by
  have e1 : n = 2 * (n / 2) := by omega
  have e2 : k = 2 * (k / 2) := by omega
  have hk0 := hq.1
  have hq' := hq
  rw [e1, e2] at hq'
  have h2 := isZ_half hq'
  refine m_floor_Qv hA h2 (by omega) fun q hq1 hq2 hq3 => ?_
  have g1 : k * q ≤ n := by
    have : k * q = 2 * (k / 2 * q) := by rw [← Int.mul_assoc, ← e2]
    omega
  have g2 : n < k * q + k := by
    have : k * q = 2 * (k / 2 * q) := by rw [← Int.mul_assoc, ← e2]
    omega
  refine h q ?_ g1 g2
  have a1 : n / k ≤ q := by
    have := (Int.ediv_lt_iff_lt_mul (a := n) (b := q + 1) hk0).mpr (by rw [Int.add_mul, Int.one_mul, Int.mul_comm q k]; exact g2)
    omega
  have a2 : q ≤ n / k := (Int.le_ediv_iff_mul_le hk0).mpr (by rw [Int.mul_comm]; exact g1)
  omega
/-- a quarter more -/
theorem add_quarter {a : Int} (ha : a.natAbs ≤ 2 ^ 50) : IsZ (Float64.add (hf a) (Float64.ofFrac false 1 4)) (2 * a + 1) 4 := by
  refine ⟨by decide, ?_⟩
  obtain ⟨m, e, hd, hv⟩ := hf_decode (k := a) (by omega)
  have hi : infMag = 2047 * 2 ^ 52 := rfl
  have ht : 1020 * 2 ^ 52 + 2 ^ 52 < infMag := by rw [hi]; omega
  have hV : V (1020 * 2 ^ 52 + 2 ^ 52) = 2 ^ 1072 := by
    rw [V_at (by omega) (.inl (by omega)), ← Nat.pow_add]
  have hp : Float64.ofFrac false 1 4 = pack false (1020 * 2 ^ 52 + 2 ^ 52) := by
    have hr : Right (Float64.ofFrac false 1 4) false (1 * 2 ^ 1074) 4 := ofFrac_right (by decide) rfl (by decide)
    have e4 : (2 : Nat) ^ 1074 = 2 ^ 1072 * 4 := by rw [show (1074 : Nat) = 1072 + 2 from rfl, Nat.pow_add]
    refine right_exact hr (by decide) ?_ ?_
    · have e5 : (2 : Nat) ^ 1200 = 2 ^ 128 * 2 ^ 1072 := by rw [← Nat.pow_add]
      rw [e4, e5]
      generalize (2 : Nat) ^ 1072 = K
      omega
    · rw [hV, e4]
      generalize (2 : Nat) ^ 1072 = K
      omega
  obtain ⟨m', e', hq, _⟩ := decode_pack false ht
  have hqv := val_pack false ht
  rw [hV] at hqv
  rw [← hp] at hq hqv
  have hqv : val (Float64.ofFrac false 1 4) = 2 ^ 1072 := by
    rw [hqv, pow_cast]
    unfold sgn
    rw [if_neg (by decide)]
  obtain ⟨_, h2⟩ := add_right hd hq
  rw [hv, hqv] at h2
  have e1 : a * 2 ^ 1073 + 2 ^ 1072 = (2 * a + 1) * 2 ^ 1072 := by
    rw [show (1073 : Nat) = 1072 + 1 from rfl, Int.pow_succ]
    generalize (2 : Int) ^ 1072 = K
    rw [Int.add_mul, Int.one_mul, Int.mul_comm K 2, ← Int.mul_assoc, Int.mul_comm a 2]
  rw [e1] at h2
  have h3 := h2 (fun h => by
    have := pow_pos' 1072
    rcases Int.mul_eq_zero.mp h with h | h <;> omega)
  have e2 : decide ((2 * a + 1) * 2 ^ 1072 < 0) = decide (2 * a + 1 < 0) := decide_eq_decide.mpr (mul_pos_lt (pow_pos' 1072))
  rw [e2, pow_cast, hf_mag] at h3
  unfold IsQ
  have h4 := (right_scale (c := 4) (by decide)).mpr h3
  have e3 : 4 * ((2 * a + 1).natAbs * 2 ^ 1072) = (2 * a + 1).natAbs * 2 ^ 1074 := by
    have : (2 : Nat) ^ 1074 = 2 ^ 1072 * 4 := by rw [show (1074 : Nat) = 1072 + 2 from rfl, Nat.pow_add]
    rw [this]
    generalize (2 : Nat) ^ 1072 = K
    ac_rfl
  rw [e3] at h4
  exact h4
end
end Mine
end
section
namespace Mine
/-! Gauss's rule, as the law has it -/
def mM (y : Int) : Int := 32 * 492480 + 21715 + 765433 * ((12 * y + 17) % 19) + 123120 * (y % 4) - 1565 * y
def post (w g p : Int) : Int :=
  if w = 2 ∨ w = 4 ∨ w = 6 then 1 else if w = 1 ∧ 6 < g ∧ 311676 ≤ p then 2 else if w = 0 ∧ 11 < g ∧ 442111 ≤ p then 1 else 0
def march (y : Int) : Int := mM y / 492480 + post ((mM y / 492480 + 3 * y + 5 * (y % 4) + 5) % 7) ((12 * y + 17) % 19) (mM y % 492480)
def spring (y : Int) : Int := 1721117 + 365 * (y - 3760) + (y - 3760) / 4 + march y
theorem h246t {m : Int} (h : ([2, 4, 6].any fun x => x == m) = true) : m = 2 ∨ m = 4 ∨ m = 6 := by
  simp only [List.any_cons, List.any_nil, Bool.or_false, Bool.or_eq_true, beq_iff_eq] at h
  omega
theorem h246f {m : Int} (h : ([2, 4, 6].any fun x => x == m) = false) : ¬ (m = 2 ∨ m = 4 ∨ m = 6) := by
  simp only [List.any_cons, List.any_nil, Bool.or_false, Bool.or_eq_false_iff, beq_eq_false_iff_ne] at h
  omega
theorem post_bound (w g p : Int) : 0 ≤ post w g p ∧ post w g p ≤ 2 := by
  unfold post
  repeat' split
  all_goals omega
theorem p_a {w g p : Int} (h : ([2, 4, 6].any fun x => x == w) = true) : post w g p = 1 := if_pos (h246t h)
theorem p_b {w g p : Int} (hw : w = 1) (h2 : 6 < g) (h3 : 311676 ≤ p) : post w g p = 2 := by
  unfold post; rw [if_neg (by omega), if_pos ⟨hw, h2, h3⟩]
theorem p_d {w g p : Int} (hw : w = 0) (h2 : 11 < g) (h3 : 442111 ≤ p) : post w g p = 1 := by
  unfold post; rw [if_neg (by omega), if_neg (by omega), if_pos ⟨hw, h2, h3⟩]
theorem p_e {w g p : Int} (h : ([2, 4, 6].any fun x => x == w) = false) (h1 : w ≠ 1 ∨ ¬ 6 < g ∨ ¬ 311676 ≤ p) (h2 : w ≠ 0 ∨ ¬ 11 < g ∨ ¬ 442111 ≤ p) : post w g p = 0 := by
  have := h246f h
  unfold post; rw [if_neg this, if_neg (by omega), if_neg (by omega)]
end Mine
end
section
namespace Mine
/-! the law's own civil date -/
theorem gmar (Y : Int) : gj Y 3 1 = 1721119 + 365 * Y + Y / 4 - Y / 100 + Y / 400 := by
  have h := gl_iff Y
  have e : (367 * 3 - 362 : Int) / 12 = 61 := by decide
  unfold gj gadj
  rw [if_neg (by decide), e]
  cases hg : gl Y with
  | true =>
    rw [if_pos rfl]
    have := h.mp hg
    omega
  | false =>
    rw [if_neg (by decide)]
    have : ¬ (Y % 4 = 0 ∧ (Y % 100 ≠ 0 ∨ Y % 400 = 0)) := fun x => by have := h.mpr x; rw [hg] at this; cases this
    omega
structure March (n Y v : Int) : Prop where
  num : gj Y 3 1 = n - 1 - v
  pos : 0 ≤ v ∧ v ≤ 365
  lp : v = 365 → gl (Y + 1) = true
theorem march_of {n x y v1 v2 v3 h o : Int} (hx : x = (n - 1721120) / 146097) (hy : y = (n - 1721120) % 146097) (hh : h = if 3 < y / 36524 then 3 else y / 36524) (h1 : v1 = y - 36524 * h) (h2 : v2 = v1 - 1461 * (v1 / 1461))
    (ho : o = if 3 < v2 / 365 then 3 else v2 / 365) (h3 : v3 = v2 - 365 * o) : March n (400 * x + 100 * h + 4 * (v1 / 1461) + o) v3 := by
  have a1 : 0 ≤ y ∧ y < 146097 := by omega
  have a2 : 0 ≤ h ∧ h ≤ 3 ∧ 0 ≤ v1 ∧ v1 ≤ 36524 ∧ (v1 = 36524 → h = 3) := by split at hh <;> omega
  have a3 : 0 ≤ v1 / 1461 ∧ v1 / 1461 ≤ 24 ∧ 0 ≤ v2 ∧ v2 < 1461 := by omega
  have a4 : 0 ≤ o ∧ o ≤ 3 ∧ 0 ≤ v3 ∧ v3 ≤ 365 ∧ (v3 = 365 → o = 3 ∧ v2 = 1460) := by split at ho <;> omega
  clear hh ho
  generalize hq : v1 / 1461 = q at *
  have e1 : (400 * x + 100 * h + 4 * q + o) / 4 = 100 * x + 25 * h + q := by omega
  have e2 : (400 * x + 100 * h + 4 * q + o) / 100 = 4 * x + h := by omega
  have e3 : (400 * x + 100 * h + 4 * q + o) / 400 = x := by omega
  refine ⟨?_, by omega, fun e => ?_⟩
  · rw [gmar, e1, e2, e3]; omega
  · rw [gl_iff]; omega
theorem civ_a {n Y v m D : Int} (H : March n Y v) (hn : 300000 ≤ n ∧ n ≤ 32000000000) (hm : 3 ≤ m ∧ m ≤ 12) (hD : D = v - ((367 * m - 362) / 12 - 61) + 1) (h1 : (367 * m - 362) / 12 - 61 ≤ v) (h2 : D ≤ if m = 4 ∨ m = 6 ∨ m = 9 ∨ m = 11 then 30 else 31) : IsDate (n - 1) Y m D := by
  have g := gmar Y
  have h0 := H.num
  have hv := H.pos
  have ga : gadj Y m = gadj Y 3 := by unfold gadj; rw [if_neg (show ¬ m ≤ 2 by omega), if_neg (show ¬ (3 : Int) ≤ 2 by decide)]
  have e : (367 * 3 - 362 : Int) / 12 = 61 := by decide
  refine ⟨by omega, ⟨by omega, ?_⟩, ?_, ?_⟩
  · unfold dim; rw [if_neg (by omega)]; exact h2
  · have a := gmon Y m D
    have b := gmon Y 3 1
    rw [e] at b
    rw [ga] at a
    omega
  · rw [g] at h0; omega
theorem civ_b {n Y v c m D : Int} (H : March n Y v) (hn : 300000 ≤ n ∧ n ≤ 32000000000) (hc : m = 1 ∧ c = 306 ∨ m = 2 ∧ c = 337) (hD : D = v - c + 1) (h1 : c ≤ v) (h2 : m = 1 → D ≤ 31) : IsDate (n - 1) (Y + 1) m D := by
  have g := gmar Y
  have h0 := H.num
  have hv := H.pos
  have hl := H.lp
  have ga : gadj (Y + 1) m = 0 := by unfold gadj; rw [if_pos (by omega)]
  refine ⟨by omega, ⟨by omega, ?_⟩, ?_, ?_⟩
  · unfold dim
    rcases hc with ⟨rfl, rfl⟩ | ⟨rfl, rfl⟩
    · rw [if_neg (by decide), if_neg (by decide)]; exact h2 rfl
    · rw [if_pos rfl]
      cases hg : gl (Y + 1) with
      | true => rw [if_pos rfl]; omega
      | false => rw [if_neg (by decide)]; rw [hg] at hl; have : v ≠ 365 := fun e => absurd (hl e) (by decide); omega
  · have a := gmon (Y + 1) m D
    have b := gjan (Y + 1)
    rw [ga] at a
    rw [g] at h0
    rw [Int.add_sub_cancel] at b
    rcases hc with ⟨rfl, rfl⟩ | ⟨rfl, rfl⟩ <;> omega
  · rw [g] at h0; omega
end Mine
end
section
open PySem PySem.W PyProof.Rows
set_option maxRecDepth 100000
namespace Mine
theorem News.headSub {h₀ h : Heap} {L : Addr} {a : Addr} {o : Obj} {l news : List (Addr × Obj)} (N : News h₀ L h ((a, o) :: l)) (hs : ∀ p ∈ news, p ∈ l) : News h₀ L h ((a, o) :: news) := fun q hq => by
  rcases List.mem_cons.mp hq with rfl | hq
  · exact N _ (List.Mem.head _)
  · exact N _ (List.Mem.tail _ (hs _ hq))
theorem newsSub {h₀ h : Heap} {L : Addr} {l news : List (Addr × Obj)} (N : News h₀ L h l) (hs : ∀ p ∈ news, p ∈ l) : News h₀ L h news := fun q hq => N _ (hs _ hq)
theorem flipT {h₀ : Heap} {L : Addr} {m : Str → Option Value} {news : List (Addr × Obj)} {s : Shared} {Q : Value → Shared → Prop} {P : Int → Int → Int → Prop}
    (hret : ∀ (y mo d : Int), P y mo d → ∀ (t1 t2 t3 : Tok) (q : Addr) (h' : Heap) (tk' : Nat), Fr h₀ L h' m → News h₀ L h' ((q, tup3 y mo d t1 t2 t3) :: news) → Q (.ref q) { s with heap := h', toks := tk' })
    {y mo d : Int} {t1 t2 t3 : Tok} {q : Addr} {h' : Heap} {tk' : Nat} (N : News h₀ L h' ((q, tup3 y mo d t1 t2 t3) :: news)) (F : Fr h₀ L h' m) (p : P y mo d) : Q (.ref q) { s with heap := h', toks := tk' } := hret y mo d p t1 t2 t3 q h' tk' F N
/-! letters whose equations stand in a structure: the walk's own arithmetic does not look into it -/
structure SubIs (v a b : Int) : Prop where
  eq : v = a - b
structure DivIs (x y a b : Int) : Prop where
  q : x = a / b
  r : y = a % b
structure MinIs (r a b : Int) : Prop where
  eq : r = if b < a then b else a
theorem min_s {prog : Program} {w : World} {A : Around} {E : Value → Shared → Prop} {s : Shared} {Q : Value → Shared → Prop} {a b : Int} {t u : Tok} {h₀ : Heap} {L : Addr} {m : Str → Option Value} {news : List (Addr × Obj)} (hh : A.handled = none) (F : Fr h₀ L s.heap m) (N : News h₀ L s.heap news)
    (h : ∀ r v h' tk, MinIs r a b → Fr h₀ L h' m → News h₀ L h' news → Q (.int r v) { s with heap := h', toks := tk }) :
    wpAny (model prog w) A (call (.builtin "min") [.int a t, .int b u]) Q E s := min_two_N hh F N fun h' tk F' N' => h _ _ h' tk ⟨rfl⟩ F' N'
theorem isub_s {prog : Program} {w : World} {A : Around} {E : Value → Shared → Prop} {s : Shared} {Q : Value → Shared → Prop} {a b : Int} {t u : Tok} (h : ∀ v, SubIs v a b → Q (.int v s.toks) { s with toks := s.toks + 1 }) : wpAny (model prog w) A (inplaceOp .Sub (.int a t) (.int b u)) Q E s := AutoIntOps.isub_0 (h _ ⟨rfl⟩)
theorem divmod_s {prog : Program} {w : World} {A : Around} {E : Value → Shared → Prop} {s : Shared} {Q : Value → Shared → Prop} {a b : Int} {t u : Tok} {h₀ : Heap} {L : Addr} {m : Str → Option Value} {news : List (Addr × Obj)} (F : Fr h₀ L s.heap m) (N : News h₀ L s.heap news) (hb : 0 < b) (hs : b.natAbs < 1073741824)
    (h : ∀ x y, DivIs x y a b → ∀ h', Fr h₀ L h' m → News h₀ L h' ((s.heap.objs.size, { cls := .type "tuple", data := .seq #[.int x s.toks, .int y (s.toks + 1)] }) :: news) →
      Q (.ref s.heap.objs.size) { s with toks := s.toks + 1 + 1, heap := h' }) :
    wpAny (model prog w) A (call (.builtin "divmod") [.int a t, .int b u]) Q E s := m_divmod F N hb hs (h _ _ ⟨rfl, rfl⟩)
theorem isub_w {prog : Program} {w : World} {A : Around} {E : Value → Shared → Prop} {s : Shared} {Q : Value → Shared → Prop} {a b : Int} {t u : Tok} (h : ∀ v, v = a - b → Q (.int v s.toks) { s with toks := s.toks + 1 }) : wpAny (model prog w) A (inplaceOp .Sub (.int a t) (.int b u)) Q E s := AutoIntOps.isub_0 (h _ rfl)
theorem divmod_v {prog : Program} {w : World} {A : Around} {E : Value → Shared → Prop} {s : Shared} {Q : Value → Shared → Prop} {a b : Int} {t u : Tok} {h₀ : Heap} {L : Addr} {m : Str → Option Value} {news : List (Addr × Obj)} (F : Fr h₀ L s.heap m) (N : News h₀ L s.heap news) (hb : 0 < b) (hs : b.natAbs < 1073741824)
    (h : ∀ x y, x = a / b → y = a % b → ∀ h', Fr h₀ L h' m → News h₀ L h' ((s.heap.objs.size, { cls := .type "tuple", data := .seq #[.int x s.toks, .int y (s.toks + 1)] }) :: news) →
      Q (.ref s.heap.objs.size) { s with toks := s.toks + 1 + 1, heap := h' }) :
    wpAny (model prog w) A (call (.builtin "divmod") [.int a t, .int b u]) Q E s := m_divmod F N hb hs (h _ _ rfl rfl)
theorem storeC_only {M : Model} {A : Around} {E : Value → Shared → Prop} {s : Shared} {h₀ : Heap} {L a : Addr} {m : Str → Option Value} {cn : Str} {cs : Scope} {ccd : Value} {cl : List (Str × Addr)}
    {x : Str} {v : Value} {Q : Unit → Shared → Prop} {led news : List (Addr × Obj)} {c : Addr} {o : Obj} {v₀ : Option Value}
    (F : Fr h₀ L s.heap m) (N : News h₀ L s.heap led) (hc : cl.lookup x = some c) (hm : (c, o) ∈ led) (hs : ∀ p ∈ news, p ∈ led) (hoff : ∀ p ∈ news, p.1 ≠ c) (hd : o.data = .cell v₀)
    (h : ∀ h' o', Fr h₀ L h' m → News h₀ L h' ((c, o') :: news) → o'.data = .cell (some v) → Q () { s with heap := h' })
    (hk : cs.kind = .function := by rfl) (hx : (envX cn cs L a ccd cl).kindOf x = some .cell := by rfl) : wpAny M A (storeName (envX cn cs L a ccd cl) x v) Q E s := by
  refine storeX_C (news := (c, o) :: news) F (fun p hp => ?_) hc (UpdF.head hoff) hd h hk hx
  rcases List.mem_cons.mp hp with rfl | hp
  · exact N _ hm
  · exact N _ (hs _ hp)
theorem lt_off1 {d : Addr} {l : List (Addr × Obj)} (h : ∀ p ∈ l, p.1 < d) : ∀ p ∈ l, p.1 ≠ d + 1 := fun p hp => Nat.ne_of_lt (Nat.lt_succ_of_lt (h p hp))
end Mine
end
section
open PySem PySem.W PyProof.Rows
set_option maxRecDepth 100000
namespace Mine
open PySem.Calls PySem.Spec PyProof.V
/-! a list comprehension over a tuple, with one test, that gives back its own letter -/
section
variable {prog : Program} {w : World} {A : Around} {E : Value → Shared → Prop} {s : Shared} {h₀ : Heap} {L : Addr} {m : Str → Option Value} {env : Env}
def TupAt (h₀ : Heap) (ax : Addr) (its : Array Value) (news : List (Addr × Obj)) : Prop := h₀.IsTuple ax its ∨ ∃ o, (ax, o) ∈ news ∧ o.cls = .type "tuple" ∧ ∃ n, o.data = .seq its n
theorem TupAt.get {h₀ h : Heap} {L ax : Addr} {its : Array Value} {news : List (Addr × Obj)} (x : TupAt h₀ ax its news) (k : ∀ b o, h₀.get? b = some o → h.get? b = some o) (N : News h₀ L h news) : h.IsTuple ax its := by
  rcases x with ⟨o, e, r⟩ | ⟨o, hm, r⟩
  · exact ⟨o, k _ _ e, r⟩
  · exact ⟨o, (N _ hm).1, r⟩
theorem tup_st {ax I : Addr} {its : Array Value} : ∀ i (h h' : Heap) (o : Obj) (nw : List (Addr × Obj)), (h.IsTupleIter I ax i ∧ h.IsTuple ax its) → h.get? I = some o → h'.get? I = some o → (∀ b o, h₀.get? b = some o → h'.get? b = some o) → News h₀ L h' nw → TupAt h₀ ax its nw → (h'.IsTupleIter I ax i ∧ h'.IsTuple ax its) :=
  fun i h h' o nw st e e' k N S => ⟨by obtain ⟨o', q, r⟩ := st.1; rw [e] at q; cases q; exact ⟨o, e', r⟩, S.get k N⟩
/-- what a test leaves -/
def TestOut (h₀ : Heap) (L : Addr) (m : Str → Option Value) (all : List (Addr × Obj)) (s : Shared) (c : Bool) (b : Bool) (s' : Shared) : Prop := b = c ∧ ∃ h' tk', s' = { s with heap := h', toks := tk' } ∧ Fr h₀ L h' m ∧ News h₀ L h' all
theorem testOut_intro {all : List (Addr × Obj)} {c b : Bool} {h' : Heap} {tk' : Nat} (F : Fr h₀ L h' m) (N : News h₀ L h' all) (e : b = c) : TestOut h₀ L m all s c b { s with heap := h', toks := tk' } := ⟨e, h', tk', rfl, F, N⟩
def TupSrc (prog : Program) (w : World) (A : Around) (h₀ : Heap) (L : Addr) (m : Str → Option Value) (env : Env) (ct : PySem.Expr) (x : Str) (scope : Scope) (cl : List (Str × Addr)) (Q : Value → Shared → Prop) (xv : Value) (s₁ : Shared) : Prop :=
  ∃ (ax : Addr) (its : List Value) (news : List (Addr × Obj)) (p : Value → Bool), xv = .ref ax ∧ A.handled = none ∧ Fr h₀ L s₁.heap m ∧ News h₀ L s₁.heap news ∧ TupAt h₀ ax its.toArray news ∧ its.length ≤ sizeLine ∧
    (∀ v ∈ its, ∀ I oI C oC D oD m₂ h tk (E' : Value → Shared → Prop), LCg.NsObj oC m₂ → m₂ x = some v → Fr h₀ L h m → News h₀ L h ((I, oI) :: (C, oC) :: (D, oD) :: news) →
      wpAny (model prog w) A (isTrue ct (compEnvC scope cl C env) (eval ct (compEnvC scope cl C env))) (TestOut h₀ L m ((I, oI) :: (C, oC) :: (D, oD) :: news) { s₁ with heap := h, toks := tk } (p v)) E' { s₁ with heap := h, toks := tk }) ∧
    ∀ D h tk, Fr h₀ L h m → News h₀ L h ((D, LCg.lst (its.filter p)) :: news) → Q (.ref D) { s₁ with heap := h, toks := tk }
theorem rest_tup {ct : PySem.Expr} {x : Str} {px : Pos} {scope : Scope} {cl : List (Str × Addr)} {s₂ : Shared} {news : List (Addr × Obj)} {p : Value → Bool} {its : List Value} {S : List (Addr × Obj) → Prop} {Fin : List Value → List (Addr × Obj) → Prop} (hS : S news)
    (hkind : scope.kind = .function) (hx : scope.names.lookup x = some .local) (hd : (x == ("__debug__" : Str)) = false)
    (turn : ∀ v ∈ its, ∀ I oI C oC D oD m₂ h tk (E' : Value → Shared → Prop), LCg.NsObj oC m₂ → m₂ x = some v → Fr h₀ L h m → News h₀ L h ((I, oI) :: (C, oC) :: (D, oD) :: news) →
      wpAny (model prog w) A (isTrue ct (compEnvC scope cl C env) (eval ct (compEnvC scope cl C env))) (TestOut h₀ L m ((I, oI) :: (C, oC) :: (D, oD) :: news) { s₂ with heap := h, toks := tk } (p v)) E' { s₂ with heap := h, toks := tk })
    (fin : Fin (its.filter p) news) :
    ∀ (k i : Nat) (ys : List Value), i + k = its.length → ys = (its.take i).filter p → LCt.CompRestT prog w A h₀ L m env ct (.Name x px) x scope cl s₂ S (fun i v => its.toArray[i]? = some v) Fin k i ys news := by
  intro k
  induction k with
  | zero =>
    intro i ys hi hy
    have e : i = its.length := by omega
    subst e
    rw [List.take_length] at hy
    subst hy
    exact LCt.CompRestT.zero fin
  | succ k ih =>
    intro i ys hi hy
    refine LCt.CompRestT.succ ?_
    intro v I oI C oC D m₂ h tk E' hv hC hx2 F N off ne
    have hv' : its[i]? = some v := by simpa using hv
    have hm : v ∈ its := List.mem_of_getElem? hv'
    refine wpAny_mono (turn v hm I oI C oC D _ m₂ h tk E' hC hx2 F N) (fun b s₃ hb => ?_) fun _ _ e => e
    obtain ⟨rfl, h', tk', rfl, F', N'⟩ := hb
    have hs : (its.take (i + 1)).filter p = (its.take i).filter p ++ (if p v = true then [v] else []) := by
      rw [List.take_add_one, hv']
      simp only [Option.toList_some, List.filter_append]
      cases hp : p v <;> simp [hp]
    cases hp : p v with
    | true =>
      rw [hp] at hs
      simp only [if_true] at hs ⊢
      refine wpAny_Name (wpAny_loadName_local (by simpa [compEnvC, relabel] using hkind) (lookup_relabel_local hx) (hC.ns (N' _ (List.Mem.tail _ (List.Mem.head _))).1) hx2 ?_) hd
      exact ⟨h', tk', news, rfl, F', N', off, hS, ih (i + 1) _ (by omega) (by rw [hs, hy])⟩
    | false =>
      rw [hp] at hs
      simp only [Bool.false_eq_true, if_false, List.append_nil] at hs ⊢
      exact ⟨h', tk', news, rfl, F', N', off, hS, ih (i + 1) _ (by omega) (by rw [hs, hy])⟩
theorem ListComp_tup {ct iter : PySem.Expr} {x : Str} {px py : Pos} {scope : Scope} {cl : List (Str × Addr)} {pos : Pos} {Q : Value → Shared → Prop} (F₀ : Fr h₀ L s.heap m)
    (hclos : closureFor scope env = pure cl) (hcell : ∀ y ∈ scope.names, y.2 ≠ .cell) (hkind : scope.kind = .function)
    (hnames : ∀ y ∈ scope.names, y.2 = .local → scope.names.lookup y.1 = some .local) (hx : scope.names.lookup x = some .local) (hd : (x == ("__debug__" : Str)) = false)
    (h : wpAny (model prog w) A (eval iter env) (TupSrc prog w A h₀ L m env ct x scope cl Q) E s)
    (hs : ∀ x, foldedSetIterable iter env x = pure x := by intro _; rfl) :
    wpAny (model prog w) A (eval (.ListComp (.Name x py) [⟨.Name x px, iter, [ct], 0⟩] scope pos) env) Q E s := by
  rw [eval_ListComp]
  refine wpAny_comprehension_free (use := none) rfl hs hclos hkind hnames (wpAny_mono h (fun xv s₁ h₁ => ?_) fun _ _ e => e)
  obtain ⟨ax, its, news, p, rfl, hh, F, N, S, hsz, turn, fin⟩ := h₁
  have hl := S.get F.keep N
  have hlt : ax < s₁.heap.objs.size := by obtain ⟨_, e, _⟩ := hl; exact Heap.lt_size e
  refine wpAny_pyIter_tuple hl ?_
  have up : ∀ b o, s₁.heap.get? b = some o → (s₁.heap.push { cls := .type "tuple_iterator", data := .fields #[.ref ax, .int 0 0] }).get? b = some o := fun b o e => Heap.get?_push_of_some _ e
  have hl2 := hl.at fun o e => up ax o e
  refine LCt.block_T (S := TupAt h₀ ax its.toArray) (P := fun i v => its.toArray[i]? = some v) (Fin := fun ys nw => ys = its.filter p ∧ nw = news) (Walks.tuple hh s₁.heap.objs.size ax (Nat.ne_of_lt hlt) its.toArray) (by simpa using hsz) (fun i h st => by obtain ⟨o, e, _⟩ := st.1; exact ⟨o, e⟩) tup_st hcell hkind hx ⟨⟨_, Heap.get?_push_size _ rfl, rfl, rfl⟩, hl2⟩ (fun b hb => ?_)
    (F.keeps up) (N.grown up) (Nat.ne_of_lt F.ns.lt) (next_is_new F) (fun q hq => Nat.ne_of_lt (Heap.lt_size (N q hq).1)) S ?_ ?_
  · show b < (s₁.heap.push _).objs.size
    rw [Heap.size_push]
    rcases List.mem_cons.mp hb with rfl | hb
    · exact Nat.lt_succ_self _
    · rw [List.mem_singleton.mp hb]; exact Nat.lt_succ_of_lt hlt
  · rw [List.size_toArray]
    exact rest_tup (s₂ := { s₁ with heap := s₁.heap.push { cls := .type "tuple_iterator", data := .fields #[.ref ax, .int 0 0] } }) (Fin := fun ys nw => ys = its.filter p ∧ nw = news) S hkind hx hd (fun v hv I oI C oC D oD m₂ h tk E' => turn v hv I oI C oC D oD m₂ h tk E') ⟨rfl, rfl⟩ its.length 0 [] (by omega) (by simp)
  · intro D C h tk m' ys news' F' N' o1 hn hC₀ hD₀ hCL hDL hCD offC fin'
    refine ⟨m', hn, fun h'' hs'' => ?_⟩
    obtain ⟨rfl, rfl⟩ := fin'
    refine fin D h'' tk (F'.change hs'' hCL hC₀) (fun q hq => ?_)
    refine ⟨hs''.extBut _ _ ?_ (N' q hq).1, (N' q hq).2⟩
    rcases List.mem_cons.mp hq with rfl | hq
    · exact Ne.symm hCD
    · exact offC q hq
end
end Mine
end
section
open PySem PySem.W PyProof.Rows
set_option maxRecDepth 100000
namespace Mine
open PySem.Calls PySem.Spec PyProof.V
theorem ifexp_iw {prog : Program} {w : World} {A : Around} {E : Value → Shared → Prop} {s : Shared} {env : Env} {test : PySem.Expr} {pos p1 p2 : Pos} {a b : Int} {k1 k2 : Nat} {Q : Value → Shared → Prop}
    (h : wpAny (model prog w) A (isTrue test env (eval test env)) (fun c s₂ => ∀ v, v = (if c = true then a else b) → Q (.int v s₂.toks) { s₂ with toks := s₂.toks + 1 }) E s) :
    wpAny (model prog w) A (eval (.IfExp test (.Constant (.int a) k1 p1) (.Constant (.int b) k2 p2) pos) env) Q E s := by
  refine IfExp_ (wpAny_mono h (fun c s₂ e => ?_) fun _ _ x => x)
  cases c with
  | true => exact wpAny_Constant_int (e _ rfl)
  | false => exact wpAny_Constant_int (e _ rfl)
/-! the eleven long years in thirty -/
def longItems : List Value := [.int 2 629, .int 5 630, .int 7 631, .int 10 632, .int 13 633, .int 16 634, .int 18 635, .int 21 636, .int 24 637, .int 26 638, .int 29 639]
theorem long_int : ∀ v ∈ longItems, ∃ k t, v = .int k t := by
  intro v hv
  simp only [longItems, List.mem_cons, List.not_mem_nil, or_false] at hv
  rcases hv with h | h | h | h | h | h | h | h | h | h | h <;> exact ⟨_, _, h⟩
def leP (p : Int) (v : Value) : Bool := match v with | .int k _ => decide (k ≤ p) | _ => false
theorem long_len : ∀ i : Fin 30, (((longItems.filter (leP (i.val : Int))).length : Nat) : Int) = (14 + 11 * (i.val : Int)) / 30 := by decide +kernel
theorem long_len' {p : Int} (h : 0 ≤ p ∧ p < 30) : (((longItems.filter (leP p)).length : Nat) : Int) = (14 + 11 * p) / 30 := by
  have := long_len ⟨p.toNat, by omega⟩
  simp only [Int.toNat_of_nonneg h.1] at this
  exact this
theorem tupsrc_long {prog : Program} {w : World} {A : Around} {s : Shared} {h₀ : Heap} {L : Addr} {m : Str → Option Value} {env : Env} {ct : PySem.Expr} {x : Str} {scope : Scope} {cl : List (Str × Addr)} {Q : Value → Shared → Prop} {news : List (Addr × Obj)} {p : Int} {o : Obj} {tp : Tok} (_ : o.data = .cell (some (.int p tp)))
    (hh : A.handled = none) (F : Fr h₀ L s.heap m) (X : (hd.heap_39 w.params).In h₀) (N : News h₀ L s.heap news) (hp : 0 ≤ p ∧ p < 30)
    (turn : ∀ k t I oI C oC D oD m₂ h tk (E' : Value → Shared → Prop), LCg.NsObj oC m₂ → m₂ x = some (.int k t) → Fr h₀ L h m → News h₀ L h ((I, oI) :: (C, oC) :: (D, oD) :: news) →
      wpAny (model prog w) A (isTrue ct (compEnvC scope cl C env) (eval ct (compEnvC scope cl C env))) (TestOut h₀ L m ((I, oI) :: (C, oC) :: (D, oD) :: news) { s with heap := h, toks := tk } (decide (k ≤ p))) E' { s with heap := h, toks := tk })
    (fin : ∀ D ys h tk, ((ys.length : Nat) : Int) = (14 + 11 * p) / 30 → Fr h₀ L h m → News h₀ L h ((D, LCg.lst ys) :: news) → Q (.ref D) { s with heap := h, toks := tk }) :
    TupSrc prog w A h₀ L m env ct x scope cl Q (.ref 164) s := by
  refine ⟨164, longItems, news, leP p, rfl, hh, F, N, .inl (tup164 X), by rw [sizeLine_eq]; decide, fun v hv I oI C oC D oD m₂ h tk E' hC hx F' N' => ?_, fun D h tk F' N' => fin D _ h tk (long_len' hp) F' N'⟩
  obtain ⟨k, t, rfl⟩ := long_int v hv
  exact turn k t I oI C oC D oD m₂ h tk E' hC hx F' N'
theorem tupsrc_row {prog : Program} {w : World} {A : Around} {s : Shared} {h₀ : Heap} {L : Addr} {m : Str → Option Value} {env : Env} {ct : PySem.Expr} {x : Str} {scope : Scope} {cl : List (Str × Addr)} {Q : Value → Shared → Prop} {news : List (Addr × Obj)} {R : Addr} {y mo d : Int} {t u v : Tok}
    (hh : A.handled = none) (F : Fr h₀ L s.heap m) (N : News h₀ L s.heap news) (hR : (R, tup3 y mo d t u v) ∈ news)
    (turn : ∀ k t I oI C oC D oD m₂ h tk (E' : Value → Shared → Prop), LCg.NsObj oC m₂ → m₂ x = some (.int k t) → Fr h₀ L h m → News h₀ L h ((I, oI) :: (C, oC) :: (D, oD) :: news) →
      wpAny (model prog w) A (isTrue ct (compEnvC scope cl C env) (eval ct (compEnvC scope cl C env))) (TestOut h₀ L m ((I, oI) :: (C, oC) :: (D, oD) :: news) { s with heap := h, toks := tk } true) E' { s with heap := h, toks := tk })
    (fin : ∀ D h tk, Fr h₀ L h m → News h₀ L h ((D, LCg.lst [.int y t, .int mo u, .int d v]) :: news) → Q (.ref D) { s with heap := h, toks := tk }) :
    TupSrc prog w A h₀ L m env ct x scope cl Q (.ref R) s := by
  refine ⟨R, [.int y t, .int mo u, .int d v], news, fun _ => true, rfl, hh, F, N, .inr ⟨_, hR, rfl, _, rfl⟩, by rw [sizeLine_eq]; simp only [List.length_cons, List.length_nil]; omega, fun z hz I oI C oC D oD m₂ h tk E' hC hx F' N' => ?_, fun D h tk F' N' => fin D h tk F' N'⟩
  have : ∃ k t, z = .int k t := by
    simp only [List.mem_cons, List.not_mem_nil, or_false] at hz
    rcases hz with h | h | h <;> exact ⟨_, _, h⟩
  obtain ⟨k, t, rfl⟩ := this
  exact turn k t I oI C oC D oD m₂ h tk E' hC hx F' N'
/-! the Islamic date of a number, as the law has it -/
theorem long_t {x : Int} (h : ([2, 5, 7, 10, 13, 16, 18, 21, 24, 26, 29].any fun y => y == x) = true) : x = 2 ∨ x = 5 ∨ x = 7 ∨ x = 10 ∨ x = 13 ∨ x = 16 ∨ x = 18 ∨ x = 21 ∨ x = 24 ∨ x = 26 ∨ x = 29 := by
  simp only [List.any_cons, List.any_nil, Bool.or_false, Bool.or_eq_true, beq_iff_eq] at h
  omega
theorem long_f {x : Int} (h : ([2, 5, 7, 10, 13, 16, 18, 21, 24, 26, 29].any fun y => y == x) = false) : ¬ (x = 2 ∨ x = 5 ∨ x = 7 ∨ x = 10 ∨ x = 13 ∨ x = 16 ∨ x = 18 ∨ x = 21 ∨ x = 24 ∨ x = 26 ∨ x = 29) := by
  simp only [List.any_cons, List.any_nil, Bool.or_false, Bool.or_eq_false_iff, beq_eq_false_iff_ne] at h
  omega
theorem long_step : ∀ i : Fin 30, (if ([2, 5, 7, 10, 13, 16, 18, 21, 24, 26, 29].any fun y => y == ((i.val : Int) + 1)) = true then (355 : Int) else 354) = 354 + (25 + 11 * (i.val : Int)) / 30 - (14 + 11 * (i.val : Int)) / 30 := by decide +kernel
theorem long_step' {p v : Int} (h : 0 ≤ p ∧ p < 30) (hv : v = if ([2, 5, 7, 10, 13, 16, 18, 21, 24, 26, 29].any fun y => y == (p + 1)) = true then (355 : Int) else 354) : v = 354 + (25 + 11 * p) / 30 - (14 + 11 * p) / 30 := by
  have := long_step ⟨p.toNat, by omega⟩
  simp only [Int.toNat_of_nonneg h.1] at this
  rw [hv]
  exact this
theorem isl_ok {n x y p l2 Y M D r : Int} (hn : 300000 ≤ n ∧ n ≤ 32000000000) (hx : x = (n - 1948440) / 10631) (hy : y = (n - 1948440) % 10631) (hp : 0 ≤ p ∧ p < 30) (h2 : l2 = y - (354 * p + (14 + 11 * p) / 30)) (h0 : 0 ≤ l2) (h1 : l2 < 354 + (25 + 11 * p) / 30 - (14 + 11 * p) / 30)
    (hr : r = if 5 < l2 / 59 then 5 else l2 / 59) (hY : Y = 30 * x + p + 1) (hM : l2 - 59 * r < 30 ∧ M = 2 * r + 1 ∧ D = l2 - 59 * r + 1 ∨ 30 ≤ l2 - 59 * r ∧ M = 2 * r + 2 ∧ D = l2 - 59 * r - 29) : IsIsl (n - 1) Y M D := by
  have j1 := ijan Y
  have j2 := ijan (Y + 1)
  have e1 : (3 + 11 * Y) / 30 = 11 * x + (14 + 11 * p) / 30 := by rw [hY]; omega
  have e2 : (3 + 11 * (Y + 1)) / 30 = 11 * x + (25 + 11 * p) / 30 := by rw [hY]; omega
  rw [e1] at j1
  rw [e2] at j2
  have hd : n - 1 - ij Y 1 1 = l2 := by rw [j1]; omega
  have hr' : 0 ≤ r ∧ r ≤ 5 ∧ 0 ≤ l2 - 59 * r ∧ (r < 5 → l2 - 59 * r < 59) ∧ l2 - 59 * r < 60 := by split at hr <;> omega
  refine ⟨by omega, ⟨by omega, by omega, fun _ _ => by omega⟩, ?_, ⟨by omega, ?_⟩, ?_⟩
  · rw [imon]
    have : -(59 * (M - 1)) / 2 = - (l2 - D + 1) := by
      rcases hM with ⟨_, rfl, rfl⟩ | ⟨_, rfl, rfl⟩ <;> omega
    omega
  · rw [j2]; omega
  · rw [hY]; omega
theorem isl_a {n x y p l2 l3 : Int} (hn : 300000 ≤ n ∧ n ≤ 32000000000) (hx : x = (n - 1948440) / 10631) (hy : y = (n - 1948440) % 10631) (h3 : l3 = l2 - 59 * if 5 < l2 / 59 then 5 else l2 / 59) (hp : 0 ≤ p ∧ p < 30) (h2 : l2 = y - (354 * p + (14 + 11 * p) / 30)) (h0 : 0 ≤ l2) (h1 : l2 < 354 + (25 + 11 * p) / 30 - (14 + 11 * p) / 30) (h4 : l3 < 30) :
    IsIsl (n - 1) (30 * x + p + 1) (2 * (if 5 < l2 / 59 then 5 else l2 / 59) + 1) (l3 + 1) := by
  generalize hr : (if 5 < l2 / 59 then 5 else l2 / 59 : Int) = r at *
  exact isl_ok hn hx hy hp h2 h0 h1 hr.symm rfl (.inl ⟨by omega, rfl, by omega⟩)
theorem isl_b {n x y p l2 l3 : Int} (hn : 300000 ≤ n ∧ n ≤ 32000000000) (hx : x = (n - 1948440) / 10631) (hy : y = (n - 1948440) % 10631) (h3 : l3 = l2 - 59 * if 5 < l2 / 59 then 5 else l2 / 59) (hp : 0 ≤ p ∧ p < 30) (h2 : l2 = y - (354 * p + (14 + 11 * p) / 30)) (h0 : 0 ≤ l2) (h1 : l2 < 354 + (25 + 11 * p) / 30 - (14 + 11 * p) / 30) (h4 : ¬ l3 < 30) :
    IsIsl (n - 1) (30 * x + p + 1) (2 * (if 5 < l2 / 59 then 5 else l2 / 59) + 2) (l3 - 29) := by
  generalize hr : (if 5 < l2 / 59 then 5 else l2 / 59 : Int) = r at *
  exact isl_ok hn hx hy hp h2 h0 h1 hr.symm rfl (.inr ⟨by omega, rfl, by omega⟩)
end Mine
end
section
open PySem PySem.W PyProof.Rows
set_option maxRecDepth 100000
namespace Mine
open PySem.Calls PySem.Spec PyProof.V
/-! a for over a written tuple of ints that takes each off a name and counts, and breaks where the name is less -/
def run : List Int → Int → Int → Int × Int
  | [], a, c => (a, c)
  | k :: ks, a, c => if a < k then (a, c) else run ks (a - k) (c + 1)
def intLit : PySem.Expr → Option Int
  | .Constant (.int i) _ _ => some i
  | _ => none
def intLits : List PySem.Expr → Option (List Int)
  | [] => some []
  | e :: es => match intLit e, intLits es with
    | some i, some ks => some (i :: ks)
    | _, _ => none
def litVals : List Int → Tok → List Value
  | [], _ => []
  | k :: ks, t => .int k t :: litVals ks (t + 1)
theorem litVals_are : ∀ (ks : List Int) (t : Tok), IntsAre (litVals ks t) ks
  | [], _ => .nil
  | k :: ks, t => .cons k t (litVals_are ks (t + 1))
theorem spliced_ints {M : Model} {A : Around} {E : Value → Shared → Prop} {env : Env} {pos : Pos} : ∀ (els : List PySem.Expr) (ks : List Int) (s : Shared) (Q : List Value → Shared → Prop), intLits els = some ks →
    Q (litVals ks s.toks) { s with toks := s.toks + ks.length } → wpAny M A (spliced (backTo pos (starEach els env))) Q E s
  | [], ks, s, Q, hl, h => by
    cases hl
    exact args_nil h
  | e :: es, ks, s, Q, hl, h => by
    simp only [intLits] at hl
    cases hd : intLit e with
    | none => rw [hd] at hl; cases hl
    | some d =>
      cases hr : intLits es with
      | none => rw [hd, hr] at hl; cases hl
      | some ks' =>
        rw [hd, hr] at hl
        cases hl
        unfold intLit at hd
        split at hd
        · cases hd
          refine args_cons (wpAny_Constant_int ?_) rfl
          refine spliced_ints es ks' _ _ hr ?_
          have e : s.toks + (d :: ks').length = s.toks + 1 + ks'.length := by rw [List.length_cons]; omega
          rw [e] at h
          exact h
        · cases hd
/-- that the run ends so: a structure, that no closer unfolds it -/
structure RunIs (ks : List Int) (a₀ c₀ a c : Int) : Prop where
  eq : (a, c) = run ks a₀ c₀
section
variable {prog : Program} {w : World} {A : Around} {E : Value → Shared → Prop} {s : Shared} {env : Env} {h₀ : Heap} {target : PySem.Expr} {body : List Stmt} {Q : Flow → Shared → Prop}
def AccC (x1 y z : Str) (a c : Int) (m₀ m' : Str → Option Value) : Prop := (∃ t, m' y = some (.int a t)) ∧ (∃ t, m' z = some (.int c t)) ∧ ∀ q, q ≠ x1 → q ≠ y → q ≠ z → m' q = m₀ q
def atC (x1 y z : Str) (u : Option Value) (a : Int) (t : Tok) (c : Int) (t' : Tok) (m₀ : Str → Option Value) : Str → Option Value := fun q => if q = x1 then u else if q = y then some (.int a t) else if q = z then some (.int c t') else m₀ q
theorem AccC.at {x1 y z : Str} {a c : Int} {m₀ m' : Str → Option Value} (h : AccC x1 y z a c m₀ m') : ∃ u t t', m' = atC x1 y z u a t c t' m₀ := by
  obtain ⟨⟨t, h1⟩, ⟨t', h2⟩, h3⟩ := h
  refine ⟨m' x1, t, t', funext fun q => ?_⟩
  unfold atC
  by_cases e1 : q = x1
  · rw [if_pos e1, e1]
  · rw [if_neg e1]
    by_cases e2 : q = y
    · rw [if_pos e2, e2, h1]
    · rw [if_neg e2]
      by_cases e3 : q = z
      · rw [if_pos e3, e3, h2]
      · rw [if_neg e3]; exact h3 q e1 e2 e3
structure BrkC (h₀ : Heap) (L : Addr) (news : List (Addr × Obj)) (s : Shared) (p : Prop) (x1 y z : Str) (a c : Int) (m₀ : Str → Option Value) (f : Flow) (s' : Shared) : Prop where
  fl : f = .next
  pr : p
  out : ∃ h' tk' m', s' = { s with heap := h', toks := tk' } ∧ Fr h₀ L h' m' ∧ News h₀ L h' news ∧ AccC x1 y z a c m₀ m'
theorem brkC {L I : Addr} {o : Obj} {news : List (Addr × Obj)} {p : Prop} {x1 y z : Str} {a c : Int} {m₀ m' : Str → Option Value} {h' : Heap} {tk' : Nat} {t t' : Tok} (F : Fr h₀ L h' m') (N : News h₀ L h' ((I, o) :: news)) (hp : p) (e1 : m' y = some (.int a t)) (e2 : m' z = some (.int c t')) (e3 : ∀ q, q ≠ x1 → q ≠ y → q ≠ z → m' q = m₀ q) :
    BrkC h₀ L news s p x1 y z a c m₀ .next { s with heap := h', toks := tk' } := ⟨rfl, hp, ⟨h', tk', m', rfl, F, fun q hq => N q (List.Mem.tail _ hq), ⟨t, e1⟩, ⟨t', e2⟩, e3⟩⟩
theorem endC {L I : Addr} {o : Obj} {news : List (Addr × Obj)} {s₁ : Shared} {h' : Heap} {tk : Nat} {m' m₀ : Str → Option Value} {x1 y z : Str} {p : Prop} {a c a' c' : Int} {t t' : Tok}
    (F : Fr h₀ L h' m') (N : News h₀ L h' ((I, o) :: news)) (hoff : ∀ p ∈ news, p.1 < I) (hp : p) (e1 : m' y = some (.int a' t)) (ha : a' = a) (e2 : m' z = some (.int c' t')) (hc : c' = c) (e3 : ∀ q, q ≠ x1 → q ≠ y → q ≠ z → m' q = m₀ q) :
    UnrEndW h₀ L s₁ [(I, o)] (fun m' n' => n' = news ∧ p ∧ AccC x1 y z a c m₀ m') { s₁ with heap := h', toks := tk } :=
  ⟨h', tk, m', news, rfl, F, N, fun p hp q hq => by rw [List.mem_singleton.mp hq]; exact Nat.ne_of_lt (hoff p hp), rfl, hp, ⟨t, by rw [← ha]; exact e1⟩, ⟨t', by rw [← hc]; exact e2⟩, e3⟩
theorem itemsRest_run {I : Addr} {T : String} {keep news : List (Addr × Obj)} {x1 y z : Str} {m₀ : Str → Option Value} (hk : SubL keep news) {B : Int × Int}
    (turn : ∀ (k : Int) t a c m₁ h tk o, AccC x1 y z a c m₀ m₁ → o.cls = .type T → Fr h₀ env.locals h m₁ → News h₀ env.locals h ((I, o) :: news) →
      wpAny (model prog w) A (assign target env (.int k t)) (fun _ s₂ => wpAny (model prog w) A (execs body env) (UnrPostW h₀ env.locals { s with heap := h, toks := tk } [(I, o)] (fun m' n' => n' = news ∧ (¬ a < k) ∧ AccC x1 y z (a - k) (c + 1) m₀ m') (BrkC h₀ env.locals news s (a < k) x1 y z a c m₀)) E s₂) E { s with heap := h, toks := tk })
    (done : ∀ m' h tk, AccC x1 y z B.1 B.2 m₀ m' → Fr h₀ env.locals h m' → News h₀ env.locals h news → Q .next { s with heap := h, toks := tk }) :
    ∀ (vs : List Value) (ks : List Int) (a c : Int) (m : Str → Option Value), IntsAre vs ks → AccC x1 y z a c m₀ m → run ks a c = B →
      ItemsRest prog w A E h₀ env target body Q s [(I, T)] keep (vs.map .val) m news := by
  intro vs ks a c m hv
  induction hv generalizing a c m with
  | nil =>
    intro hm hb
    have e : (a, c) = B := hb
    subst e
    exact ItemsRest.zero fun h tk F N => done m h tk hm F N
  | cons k t hv ih =>
    rename_i vs' ks'
    intro hm hb
    refine ItemsRest.val fun h tk F => ?_
    refine AllObj.cons fun o hc => AllObj.nil fun N => ?_
    refine wpAny_mono (turn k t a c m h tk o hm hc F N) (fun _ s₂ h₂ => wpAny_mono h₂ (fun f s₃ q => ?_) fun _ _ e => e) fun _ _ e => e
    have go : UnrEndW h₀ env.locals { s with heap := h, toks := tk } [(I, o)] (fun m' n' => n' = news ∧ (¬ a < k) ∧ AccC x1 y z (a - k) (c + 1) m₀ m') s₃ →
        UnrEndW h₀ env.locals { s with heap := h, toks := tk } [(I, o)] (fun m' n' => SubL keep n' ∧ ItemsRest prog w A E h₀ env target body Q s [(I, T)] keep (vs'.map .val) m' n') s₃ := by
      rintro ⟨h', tk', m', n', e, F', N2, off, en, hlt, hm'⟩
      refine ⟨h', tk', m', n', e, F', N2, off, en ▸ hk, en ▸ ih (a - k) (c + 1) m' hm' ?_⟩
      rw [← hb]
      exact (if_neg hlt).symm
    cases f with
    | ret v => exact nomatch q.fl
    | brk =>
      obtain ⟨_, hlt, ⟨h', tk', m', rfl, F', N', hm'⟩⟩ := q
      refine done m' h' tk' ?_ F' N'
      have e : run (k :: ks') a c = (a, c) := if_pos hlt
      rw [← hb, e]
      exact hm'
    | next => exact go q
    | cont => exact go q
theorem iter_run {D' : Addr} {vs : List Value} {ks : List Int} {m₀ : Str → Option Value} {news : List (Addr × Obj)} (x1 y z : Str) {a₀ c₀ : Int} {t₀ u₀ : Tok} {n : Nat} {lo : Obj}
    (hh : A.handled = none) (F : Fr h₀ env.locals s.heap m₀) (N : News h₀ env.locals s.heap news) (hm : (D', lo) ∈ news) (hcl : lo.cls = .type "tuple") (hd : lo.data = .seq vs.toArray n) (hi : IntsAre vs ks)
    (hy : m₀ y = some (.int a₀ t₀)) (hz : m₀ z = some (.int c₀ u₀))
    (turn : ∀ (I : Addr) (k : Int) t a c m₁ h tk o, (∀ q ∈ news, q.1 < I) → AccC x1 y z a c m₀ m₁ → o.cls = .type "tuple_iterator" → Fr h₀ env.locals h m₁ → News h₀ env.locals h ((I, o) :: news) →
      wpAny (model prog w) A (assign target env (.int k t)) (fun _ s₂ => wpAny (model prog w) A (execs body env) (UnrPostW h₀ env.locals { s with heap := h, toks := tk } [(I, o)] (fun m' n' => n' = news ∧ (¬ a < k) ∧ AccC x1 y z (a - k) (c + 1) m₀ m') (BrkC h₀ env.locals news s (a < k) x1 y z a c m₀)) E s₂) E { s with heap := h, toks := tk })
    (done : ∀ a c m' h tk, RunIs ks a₀ c₀ a c → AccC x1 y z a c m₀ m' → Fr h₀ env.locals h m' → News h₀ env.locals h news → Q .next { s with heap := h, toks := tk }) :
    wpAny (model prog w) A (pyIter (.ref D')) (fun it s₂ => TurnsAt prog w A h₀ env target body Q E it s₂) E s := by
  refine iter_tupTurns hh F N hm hcl hd fun I hI => ?_
  exact itemsRest_run (keep := [(D', lo)]) (And.intro hm trivial) (fun k t a c m₁ h tk o h1 h2 h3 h4 => turn I k t a c m₁ h tk o hI h1 h2 h3 h4) (fun m' h tk h1 h2 h3 => done _ _ m' h tk ⟨rfl⟩ h1 h2 h3) vs ks a₀ c₀ m₀ hi ⟨⟨t₀, hy⟩, ⟨u₀, hz⟩, fun _ _ _ _ => rfl⟩ rfl
end
theorem run_step {k a c : Int} {ks : List Int} {B : Int × Int} (h : B = run (k :: ks) a c) : (a < k ∧ B = (a, c)) ∨ (¬ a < k ∧ B = run ks (a - k) (c + 1)) := by
  by_cases e : a < k
  · exact .inl ⟨e, h.trans (if_pos e)⟩
  · exact .inr ⟨e, h.trans (if_neg e)⟩
/-! the months of a civil year from March on -/
theorem run_civ {n Y v a c : Int} (H : March n Y v) (hn : 300000 ≤ n ∧ n ≤ 32000000000) (hr : RunIs [31, 30, 31, 30, 31, 31, 30, 31, 30, 31, 31] v 3 a c) :
    (12 < c → IsDate (n - 1) (Y + 1) (c - 12) (a + 1)) ∧ (¬ 12 < c → IsDate (n - 1) Y c (a + 1)) := by
  replace hr := hr.eq
  have hv := H.pos
  have fin : ∀ {x z : Int}, (a, c) = (x, z) → (12 < z → IsDate (n - 1) (Y + 1) (z - 12) (x + 1)) ∧ (¬ 12 < z → IsDate (n - 1) Y z (x + 1)) → (12 < c → IsDate (n - 1) (Y + 1) (c - 12) (a + 1)) ∧ (¬ 12 < c → IsDate (n - 1) Y c (a + 1)) := by
    intro x z h
    obtain ⟨rfl, rfl⟩ := Prod.mk.inj h
    exact id
  rcases run_step hr with ⟨h0, hr⟩ | ⟨h0, hr⟩
  · exact fin hr ⟨fun h => absurd h (by decide), fun _ => civ_a H hn (by decide) (by omega) (by omega) (by first | (rw [if_pos (by decide)]; omega) | (rw [if_neg (by decide)]; omega))⟩
  rcases run_step hr with ⟨h1, hr⟩ | ⟨h1, hr⟩
  · exact fin hr ⟨fun h => absurd h (by decide), fun _ => civ_a H hn (by decide) (by omega) (by omega) (by first | (rw [if_pos (by decide)]; omega) | (rw [if_neg (by decide)]; omega))⟩
  rcases run_step hr with ⟨h2, hr⟩ | ⟨h2, hr⟩
  · exact fin hr ⟨fun h => absurd h (by decide), fun _ => civ_a H hn (by decide) (by omega) (by omega) (by first | (rw [if_pos (by decide)]; omega) | (rw [if_neg (by decide)]; omega))⟩
  rcases run_step hr with ⟨h3, hr⟩ | ⟨h3, hr⟩
  · exact fin hr ⟨fun h => absurd h (by decide), fun _ => civ_a H hn (by decide) (by omega) (by omega) (by first | (rw [if_pos (by decide)]; omega) | (rw [if_neg (by decide)]; omega))⟩
  rcases run_step hr with ⟨h4, hr⟩ | ⟨h4, hr⟩
  · exact fin hr ⟨fun h => absurd h (by decide), fun _ => civ_a H hn (by decide) (by omega) (by omega) (by first | (rw [if_pos (by decide)]; omega) | (rw [if_neg (by decide)]; omega))⟩
  rcases run_step hr with ⟨h5, hr⟩ | ⟨h5, hr⟩
  · exact fin hr ⟨fun h => absurd h (by decide), fun _ => civ_a H hn (by decide) (by omega) (by omega) (by first | (rw [if_pos (by decide)]; omega) | (rw [if_neg (by decide)]; omega))⟩
  rcases run_step hr with ⟨h6, hr⟩ | ⟨h6, hr⟩
  · exact fin hr ⟨fun h => absurd h (by decide), fun _ => civ_a H hn (by decide) (by omega) (by omega) (by first | (rw [if_pos (by decide)]; omega) | (rw [if_neg (by decide)]; omega))⟩
  rcases run_step hr with ⟨h7, hr⟩ | ⟨h7, hr⟩
  · exact fin hr ⟨fun h => absurd h (by decide), fun _ => civ_a H hn (by decide) (by omega) (by omega) (by first | (rw [if_pos (by decide)]; omega) | (rw [if_neg (by decide)]; omega))⟩
  rcases run_step hr with ⟨h8, hr⟩ | ⟨h8, hr⟩
  · exact fin hr ⟨fun h => absurd h (by decide), fun _ => civ_a H hn (by decide) (by omega) (by omega) (by first | (rw [if_pos (by decide)]; omega) | (rw [if_neg (by decide)]; omega))⟩
  rcases run_step hr with ⟨h9, hr⟩ | ⟨h9, hr⟩
  · exact fin hr ⟨fun h => absurd h (by decide), fun _ => civ_a H hn (by decide) (by omega) (by omega) (by first | (rw [if_pos (by decide)]; omega) | (rw [if_neg (by decide)]; omega))⟩
  rcases run_step hr with ⟨h10, hr⟩ | ⟨h10, hr⟩
  · exact fin hr ⟨fun _ => civ_b H hn (.inl ⟨by decide, rfl⟩) (by omega) (by omega) (by omega), fun h => absurd (by decide) h⟩
  exact fin hr ⟨fun _ => civ_b H hn (.inr ⟨by decide, rfl⟩) (by omega) (by omega) (by omega), fun h => absurd (by decide) h⟩
theorem march_s {n x y v1 v2 v3 h o : Int} (D : DivIs x y (n - 1721120) 146097) (M1 : MinIs h (y / 36524) 3) (S1 : SubIs v1 y (36524 * h)) (S2 : SubIs v2 v1 (1461 * (v1 / 1461))) (M2 : MinIs o (v2 / 365) 3) (S3 : SubIs v3 v2 (365 * o)) :
    March n (400 * x + 100 * h + 4 * (v1 / 1461) + o) v3 :=
  march_of D.q D.r M1.eq S1.eq S2.eq M2.eq S3.eq
end Mine
end
section
namespace Mine
/-! a day has one date -/
theorem jan_step (Y : Int) : gj (Y + 1) 1 1 = gj Y 1 1 + 365 + (if gl Y = true then 1 else 0) := by
  have h := gl_iff Y
  rw [gjan, gjan, Int.add_sub_cancel]
  cases hg : gl Y with
  | true => rw [if_pos rfl]; have := h.mp hg; omega
  | false =>
    rw [if_neg (by decide)]
    have : ¬ (Y % 4 = 0 ∧ (Y % 100 ≠ 0 ∨ Y % 400 = 0)) := fun x => by have := h.mpr x; rw [hg] at this; cases this
    omega
theorem jan_mono {Y Z : Int} (h : Y + 1 ≤ Z) : gj (Y + 1) 1 1 ≤ gj Z 1 1 := by
  rw [gjan, gjan]; omega
def st (Y m : Int) : Int := (367 * m - 362) / 12 + gadj Y m
theorem st_step {Y m : Int} (h : 1 ≤ m ∧ m ≤ 12) : (m ≤ 11 → st Y (m + 1) = st Y m + dim Y m) ∧ (m = 12 → st Y m + dim Y m = 365 + (if gl Y = true then 1 else 0)) := by
  have hm : m = 1 ∨ m = 2 ∨ m = 3 ∨ m = 4 ∨ m = 5 ∨ m = 6 ∨ m = 7 ∨ m = 8 ∨ m = 9 ∨ m = 10 ∨ m = 11 ∨ m = 12 := by omega
  unfold st gadj dim
  cases gl Y <;> rcases hm with h | h | h | h | h | h | h | h | h | h | h | h <;> subst h <;> decide
theorem st_mono {Y m k : Int} (h : 1 ≤ m ∧ m ≤ k ∧ k ≤ 12) : st Y m ≤ st Y k := by
  unfold st gadj
  cases gl Y <;> simp only [if_true, Bool.false_eq_true, if_false] <;> split <;> split <;> omega
theorem st_next {Y m k : Int} (h : 1 ≤ m ∧ m < k ∧ k ≤ 12) : st Y m + dim Y m ≤ st Y k := by
  rw [← (st_step (Y := Y) (m := m) (by omega)).1 (by omega)]
  exact st_mono (by omega)
theorem st_one (Y : Int) : st Y 1 = 0 := by
  unfold st gadj
  rw [if_pos (by decide)]
  decide
theorem IsDate.doy {N y m d : Int} (H : IsDate N y m d) : N = gj y 1 1 + st y m + d - 1 := by
  rw [← H.num, gmon]; unfold st; omega
theorem IsDate.year {N y m d : Int} (H : IsDate N y m d) : gj y 1 1 ≤ N ∧ N < gj (y + 1) 1 1 := by
  have h := H.doy
  have hm := H.mon
  have hd := H.day
  have h1 := st_one y
  have h2 := st_mono (Y := y) (m := 1) (k := m) (by omega)
  have h3 := st_step (Y := y) (m := m) hm
  have h4 := st_step (Y := y) (m := 12) (by decide)
  rw [jan_step]
  refine ⟨by omega, ?_⟩
  by_cases e : m = 12
  · subst e
    have := h4.2 rfl
    omega
  · have := st_next (Y := y) (m := m) (k := 12) (by omega)
    have := h4.2 rfl
    have := dim_bound y 12
    omega
theorem IsDate.same {N y m d y' m' d' : Int} (H : IsDate N y m d) (K : IsDate N y' m' d') : y' = y ∧ m' = m ∧ d' = d := by
  have h1 := H.year
  have k1 := K.year
  have e : y' = y := by
    by_cases a : y + 1 ≤ y'
    · have := jan_mono a; omega
    · by_cases b : y' + 1 ≤ y
      · have := jan_mono b; omega
      · omega
  subst e
  have h2 := H.doy
  have k2 := K.doy
  have hm := H.mon
  have km := K.mon
  have hd := H.day
  have kd := K.day
  have e : m' = m := by
    by_cases a : m < m'
    · have := st_next (Y := y') (m := m) (k := m') (by omega); omega
    · by_cases b : m' < m
      · have := st_next (Y := y') (m := m') (k := m) (by omega); omega
      · omega
  subst e
  exact ⟨rfl, rfl, by omega⟩
theorem half_c {m : Int} (h : 1 ≤ m ∧ m ≤ 12) : ∃ a, 0 ≤ a ∧ a ≤ 5 ∧ (m = 2 * a + 1 ∧ -(59 * (m - 1)) / 2 = -(59 * a) ∨ m = 2 * a + 2 ∧ -(59 * (m - 1)) / 2 = -(59 * a + 30)) := by
  by_cases e : m % 2 = 1
  · exact ⟨m / 2, by omega, by omega, .inl ⟨by omega, by omega⟩⟩
  · exact ⟨m / 2 - 1, by omega, by omega, .inr ⟨by omega, by omega⟩⟩
theorem isl_mon {m m' d d' : Int} (hm : 1 ≤ m ∧ m ≤ 12) (km : 1 ≤ m' ∧ m' ≤ 12) (hd : 1 ≤ d ∧ d ≤ 30 ∧ (m % 2 = 0 → m ≤ 10 → d ≤ 29)) (kd : 1 ≤ d' ∧ d' ≤ 30 ∧ (m' % 2 = 0 → m' ≤ 10 → d' ≤ 29))
    (e : -(59 * (m - 1)) / 2 - d = -(59 * (m' - 1)) / 2 - d') : m' = m := by
  obtain ⟨a, a1, a2, ha⟩ := half_c hm
  obtain ⟨b, b1, b2, hb⟩ := half_c km
  rcases ha with ⟨rfl, ha⟩ | ⟨rfl, ha⟩ <;> rcases hb with ⟨rfl, hb⟩ | ⟨rfl, hb⟩ <;> rw [ha, hb] at e <;> omega
theorem IsIsl.same {N y m d y' m' d' : Int} (H : IsIsl N y m d) (K : IsIsl N y' m' d') : y' = y ∧ m' = m ∧ d' = d := by
  have h1 := H.doy
  have k1 := K.doy
  have mono : ∀ {a b : Int}, a + 1 ≤ b → ij (a + 1) 1 1 ≤ ij b 1 1 := fun {a b} h => by rw [ijan, ijan]; omega
  have e : y' = y := by
    by_cases a : y + 1 ≤ y'
    · have := mono a; omega
    · by_cases b : y' + 1 ≤ y
      · have := mono b; omega
      · omega
  subst e
  have h2 := H.num
  have k2 := K.num
  rw [imon] at h2 k2
  have hm := H.mon
  have km := K.mon
  have hd := H.day
  have kd := K.day
  have e : m' = m := isl_mon hm km hd kd (by omega)
  subst e
  exact ⟨rfl, rfl, by omega⟩
end Mine
end
section
namespace Mine
/-! ## the year: molad parts, postponements, lengths -/
/-- the parts up to the shifted molad of Tishri -/
def pq (y : Int) : Int := 12084 + 765433 * months y
def del (w p : Int) (lp lq : Bool) : Int :=
  if w = 2 ∨ w = 4 ∨ w = 6 then 1 else if w = 1 ∧ lp = false ∧ 16404 ≤ p then 2 else if w = 0 ∧ lq = true ∧ 23269 ≤ p then 1 else 0
def pd (D : Int) : Int := if D % 7 = 2 ∨ D % 7 = 4 ∨ D % 7 = 6 then D + 1 else D
theorem d1_eq (y : Int) : d1 y = pd (pq y / 25920) := by
  have e : months y * 29 + (12084 + 13753 * months y) / 25920 = pq y / 25920 := by unfold pq; omega
  unfold d1 pd
  rw [e]
  generalize pq y / 25920 = D
  have : D % 7 = 0 ∨ D % 7 = 1 ∨ D % 7 = 2 ∨ D % 7 = 3 ∨ D % 7 = 4 ∨ D % 7 = 5 ∨ D % 7 = 6 := by omega
  rcases this with h | h | h | h | h | h | h <;> split <;> split <;> omega
theorem leap_t {y : Int} (h : leapB y = true) : (y * 7 + 1) % 19 < 7 := of_decide_eq_true h
theorem leap_f {y : Int} (h : leapB y = false) : ¬ (y * 7 + 1) % 19 < 7 := of_decide_eq_false h
theorem leap_of {y : Int} (h : (y * 7 + 1) % 19 < 7) : leapB y = true := decide_eq_true h
theorem leap_no {y : Int} (h : ¬ (y * 7 + 1) % 19 < 7) : leapB y = false := decide_eq_false h
theorem months_eq (y : Int) : months y = 12 * y - 13 + (7 * y + 13) / 19 := by unfold months; omega
theorem mon_t {y : Int} (h : leapB y = true) : months (y + 1) = months y + 13 := by
  have h := leap_t h
  rw [months_eq, months_eq]
  have e : 7 * (y + 1) + 13 = 7 * y + 20 := by omega
  rw [Int.mul_comm] at h
  rw [e]
  clear e
  generalize 7 * y = z at *
  omega
theorem mon_f {y : Int} (h : leapB y = false) : months (y + 1) = months y + 12 := by
  have h := leap_f h
  rw [months_eq, months_eq]
  have e : 7 * (y + 1) + 13 = 7 * y + 20 := by omega
  rw [Int.mul_comm] at h
  rw [e]
  clear e
  generalize 7 * y = z at *
  omega
theorem pq_t {y : Int} (h : leapB y = true) : pq (y + 1) = pq y + 13 * 765433 := by
  unfold pq; rw [mon_t h]; omega
theorem pq_f {y : Int} (h : leapB y = false) : pq (y + 1) = pq y + 12 * 765433 := by
  unfold pq; rw [mon_f h]; omega
theorem two_f {b c : Int} (h : c = b + 12 * 765433) : pd (c / 25920) - pd (b / 25920) = 356 ↔ b / 25920 % 7 = 1 ∧ 16404 ≤ b % 25920 := by
  unfold pd; split <;> split <;> omega
theorem two_t {b c : Int} (h : c = b + 13 * 765433) : ¬ pd (c / 25920) - pd (b / 25920) = 356 := by
  unfold pd; split <;> split <;> omega
theorem one_t {b c : Int} (h : c = b + 13 * 765433) : pd (c / 25920) - pd (b / 25920) = 382 ↔ c / 25920 % 7 = 0 ∧ 23269 ≤ c % 25920 := by
  unfold pd; split <;> split <;> omega
theorem one_f {b c : Int} (h : c = b + 12 * 765433) : ¬ pd (c / 25920) - pd (b / 25920) = 382 := by
  unfold pd; split <;> split <;> omega
theorem T_eq (y : Int) : T y = pq y / 25920 + del (pq y / 25920 % 7) (pq y % 25920) (leapB y) (leapB (y - 1)) := by
  have h2 : d1 (y + 1) - d1 y = 356 ↔ pq y / 25920 % 7 = 1 ∧ leapB y = false ∧ 16404 ≤ pq y % 25920 := by
    rw [d1_eq, d1_eq]
    cases hy : leapB y with
    | true => exact ⟨fun h => absurd h (two_t (pq_t hy)), fun h => absurd h.2.1 (by decide)⟩
    | false => exact ⟨fun h => ⟨((two_f (pq_f hy)).mp h).1, rfl, ((two_f (pq_f hy)).mp h).2⟩, fun h => (two_f (pq_f hy)).mpr ⟨h.1, h.2.2⟩⟩
  have h1 : d1 y - d1 (y - 1) = 382 ↔ pq y / 25920 % 7 = 0 ∧ leapB (y - 1) = true ∧ 23269 ≤ pq y % 25920 := by
    rw [d1_eq, d1_eq]
    have e : pq y = pq ((y - 1) + 1) := by rw [Int.sub_add_cancel]
    cases hy : leapB (y - 1) with
    | false => exact ⟨fun h => absurd h (one_f (e.trans (pq_f hy))), fun h => absurd h.2.1 (by decide)⟩
    | true => exact ⟨fun h => ⟨((one_t (e.trans (pq_t hy))).mp h).1, rfl, ((one_t (e.trans (pq_t hy))).mp h).2⟩, fun h => (one_t (e.trans (pq_t hy))).mpr ⟨h.1, h.2.2⟩⟩
  have h0 := d1_eq y
  unfold pd at h0
  unfold T d2 del
  by_cases w2 : d1 (y + 1) - d1 y = 356
  · have := h2.mp w2
    rw [if_pos w2, if_neg (by omega), if_pos this]
    rw [h0, if_neg (by omega)]
  · by_cases w1 : d1 y - d1 (y - 1) = 382
    · have := h1.mp w1
      rw [if_neg w2, if_pos w1, if_neg (by omega), if_neg (fun h => w2 (h2.mpr h)), if_pos this]
      rw [h0, if_neg (by omega)]
    · rw [if_neg w2, if_neg w1]
      by_cases w : pq y / 25920 % 7 = 2 ∨ pq y / 25920 % 7 = 4 ∨ pq y / 25920 % 7 = 6
      · rw [if_pos w]; rw [h0, if_pos w]; omega
      · rw [if_neg w, if_neg (fun h => w2 (h2.mpr h)), if_neg (fun h => w1 (h1.mpr h))]; rw [h0, if_neg w]
end Mine
end
section
namespace Mine
theorem no2 {y : Int} (h : leapB y = true) : leapB (y + 1) = false := by
  have h := leap_t h
  apply leap_no
  have e : (y + 1) * 7 + 1 = y * 7 + 8 := by omega
  rw [e]
  clear e
  generalize y * 7 = z at *
  omega
theorem del_c {w p : Int} {lp lq : Bool} : (w = 2 ∨ w = 4 ∨ w = 6) ∧ del w p lp lq = 1 ∨ (w ≠ 2 ∧ w ≠ 4 ∧ w ≠ 6) ∧ (w = 1 ∧ lp = false ∧ 16404 ≤ p ∧ del w p lp lq = 2 ∨ ¬ (w = 1 ∧ lp = false ∧ 16404 ≤ p) ∧ (w = 0 ∧ lq = true ∧ 23269 ≤ p ∧ del w p lp lq = 1 ∨ ¬ (w = 0 ∧ lq = true ∧ 23269 ≤ p) ∧ del w p lp lq = 0)) := by
  unfold del
  by_cases h1 : w = 2 ∨ w = 4 ∨ w = 6
  · rw [if_pos h1]; exact .inl ⟨h1, rfl⟩
  · rw [if_neg h1]
    refine .inr ⟨by omega, ?_⟩
    by_cases h2 : w = 1 ∧ lp = false ∧ 16404 ≤ p
    · rw [if_pos h2]; exact .inl ⟨h2.1, h2.2.1, h2.2.2, rfl⟩
    · rw [if_neg h2]
      refine .inr ⟨h2, ?_⟩
      by_cases h3 : w = 0 ∧ lq = true ∧ 23269 ≤ p
      · rw [if_pos h3]; exact .inl ⟨h3.1, h3.2.1, h3.2.2, rfl⟩
      · rw [if_neg h3]; exact .inr ⟨h3, rfl⟩
/-- the eleven kinds of years -/
structure Kind (y dl sz p : Int) : Prop where
  T : T y = pq y / 25920 + dl
  s : yd y = sz
  p : p = pq y % 25920
theorem kinds (y : Int) : ∃ dl sz p, Kind y dl sz p ∧
    (leapB y = false ∧ (dl = 0 ∧ (sz = 354 ∧ p ≤ 16403 ∨ sz = 355) ∨ dl = 1 ∧ (sz = 353 ∧ p ≤ 16403 ∨ sz = 354 ∨ sz = 355 ∧ 6888 ≤ p) ∨ dl = 2 ∧ sz = 354 ∧ 16404 ≤ p)
     ∨ leapB y = true ∧ (dl = 0 ∧ (sz = 383 ∧ p ≤ 2650 ∨ sz = 384 ∨ sz = 385) ∨ dl = 1 ∧ (sz = 383 ∨ sz = 385 ∧ 19055 ≤ p))) := by
  refine ⟨T y - pq y / 25920, yd y, pq y % 25920, ⟨by omega, rfl, rfl⟩, ?_⟩
  have h1 := T_eq y
  have h2 := T_eq (y + 1)
  rw [Int.add_sub_cancel] at h2
  unfold yd
  have d1 := @del_c (pq y / 25920 % 7) (pq y % 25920) (leapB y) (leapB (y - 1))
  have d2 := @del_c (pq (y + 1) / 25920 % 7) (pq (y + 1) % 25920) (leapB (y + 1)) (leapB y)
  generalize del (pq y / 25920 % 7) (pq y % 25920) (leapB y) (leapB (y - 1)) = a at *
  generalize del (pq (y + 1) / 25920 % 7) (pq (y + 1) % 25920) (leapB (y + 1)) (leapB y) = b at *
  have n0 : leapB (y - 1) = true → leapB y = false := fun h => by have := no2 h; rwa [Int.sub_add_cancel] at this
  have n1 := @no2 y
  cases hy : leapB y with
  | false =>
    refine .inl ⟨rfl, ?_⟩
    have e := pq_f hy
    rw [hy] at d1 d2
    simp only [Bool.false_eq_true, false_and, and_false, not_false_eq_true, true_and, false_or] at d1 d2
    generalize pq y = P at *
    generalize pq (y + 1) = R at *
    generalize T y = t at *
    generalize T (y + 1) = t' at *
    clear n0 n1 hy
    generalize leapB (y + 1) = l1 at *
    generalize leapB (y - 1) = l0 at *
    subst e h1 h2
    rcases d1 with d1 | ⟨f1, d1 | ⟨f2, d1 | ⟨f3, d1⟩⟩⟩ <;> rcases d2 with d2 | ⟨g1, d2 | ⟨g2, d2⟩⟩ <;> omega
  | true =>
    refine .inr ⟨rfl, ?_⟩
    have e := pq_t hy
    have m0 : leapB (y - 1) = false := by
      cases hh : leapB (y - 1) with
      | false => rfl
      | true => have := n0 hh; rw [hy] at this; cases this
    rw [hy, m0] at d1
    rw [hy, n1 hy] at d2
    simp only [Bool.true_eq_false, Bool.false_eq_true, false_and, and_false, not_false_eq_true, true_and, false_or] at d1 d2
    generalize pq y = P at *
    generalize pq (y + 1) = R at *
    generalize T y = t at *
    generalize T (y + 1) = t' at *
    clear n0 n1 hy m0
    subst e h1 h2
    rcases d1 with d1 | ⟨f1, d1⟩ <;> rcases d2 with d2 | ⟨g1, d2 | ⟨g2, d2 | ⟨g3, d2⟩⟩⟩ <;> omega
end Mine
end
section
open PySem PySem.W PyProof.Rows
set_option maxRecDepth 100000
namespace Mine
open PySem.Calls PySem.Spec PyProof.V

/-- one name of a frame that goes down by ones -/
def at1 (x1 : Str) (a1 : Int) (t1 : Tok) (m₀ : Str → Option Value) : Str → Option Value := fun z => if z = x1 then some (.int a1 t1) else m₀ z
def Body1 (h₀ : Heap) (L : Addr) (x1 : Str) (a1 : Int) (m₀ : Str → Option Value) (news : List (Addr × Obj)) (s : Shared) (f : Flow) (s₂ : Shared) : Prop :=
  f = .next ∧ ∃ h' tk' m', s₂ = { s with heap := h', toks := tk' } ∧ Fr h₀ L h' m' ∧ News h₀ L h' news ∧ (∃ t1, m' x1 = some (.int a1 t1)) ∧ ∀ z, z ≠ x1 → m' z = m₀ z

section
variable {prog : Program} {w : World} {A : Around} {E : Value → Shared → Prop} {s : Shared} {env : Env} {h₀ : Heap} {test : PySem.Expr} {body : List Stmt} {Q : Flow → Shared → Prop} {L : Addr} {news : List (Addr × Obj)} {m₀ : Str → Option Value} {x1 : Str} {a1 : Int}

theorem at1_of {m' : Str → Option Value} {b1 : Int} {t1 : Tok} (h1 : m' x1 = some (.int b1 t1)) (h3 : ∀ z, z ≠ x1 → m' z = m₀ z) : m' = at1 x1 b1 t1 m₀ := by
  funext z
  unfold at1
  by_cases e1 : z = x1
  · rw [if_pos e1, e1, h1]
  · rw [if_neg e1]; exact h3 z e1

theorem whl1 (n : Nat) (hE : PassesOwn (model prog w) A env E)
    (ht : ∀ (k : Nat) t1 h tk, k ≤ n → Fr h₀ L h (at1 x1 (a1 - k) t1 m₀) → News h₀ L h news →
      wpAny (model prog w) A (isTrue test env (eval test env)) (TestEnd h₀ L (at1 x1 (a1 - k) t1 m₀) news (decide (k < n)) s) E { s with heap := h, toks := tk })
    (hb : ∀ (k : Nat) t1 h tk, k < n → Fr h₀ L h (at1 x1 (a1 - k) t1 m₀) → News h₀ L h news →
      wpAny (model prog w) A (execs body env) (Body1 h₀ L x1 (a1 - k - 1) m₀ news s) E { s with heap := h, toks := tk })
    (done : ∀ t1 h tk, Fr h₀ L h (at1 x1 (a1 - n) t1 m₀) → News h₀ L h news → Q .next { s with heap := h, toks := tk }) :
    ∀ (j k : Nat) t1 h tk, k + j = n → Fr h₀ L h (at1 x1 (a1 - k) t1 m₀) → News h₀ L h news → WhlRest prog w A E env test body [] Q (j + 1) { s with heap := h, toks := tk } := by
  intro j
  induction j with
  | zero =>
    intro k t1 h tk hk F N
    refine whl_turn hE (wpAny_mono (ht k t1 h tk (by omega) F N) (fun b s₂ e => ?_) fun _ _ x => x)
    obtain ⟨h', tk', rfl, F', N', rfl⟩ := e
    have e1 : decide (k < n) = false := by simp; omega
    refine WhlIf.no e1 (wpAny_execs_nil ?_)
    have e2 : k = n := by omega
    subst e2
    exact done t1 h' tk' F' N'
  | succ j ih =>
    intro k t1 h tk hk F N
    refine whl_turn hE (wpAny_mono (ht k t1 h tk (by omega) F N) (fun b s₂ e => ?_) fun _ _ x => x)
    obtain ⟨h', tk', rfl, F', N', rfl⟩ := e
    have e1 : decide (k < n) = true := by simp; omega
    refine WhlIf.yes e1 (wpAny_mono (hb k t1 h' tk' (by omega) F' N') (fun f s₃ e => ?_) fun _ _ x => x)
    obtain ⟨rfl, h2, tk2, m', rfl, F2, N2, ⟨u1, g1⟩, g3⟩ := e
    have e3 : m' = at1 x1 (a1 - ((k + 1 : Nat) : Int)) u1 m₀ := by
      refine at1_of ?_ g3
      rw [g1]; congr 2; omega
    rw [e3] at F2
    exact ih (k + 1) u1 h2 tk2 (by omega) F2 N2

theorem while1 {pos : Pos} {t1 : Tok} (b : Int) (hE : PassesOwn (model prog w) A env E) (F : Fr h₀ L s.heap m₀) (N : News h₀ L s.heap news) (g1 : m₀ x1 = some (.int a1 t1)) (hab : b ≤ a1)
    (ht : ∀ (k : Int) t1 h tk, b ≤ k ∧ k ≤ a1 → Fr h₀ L h (at1 x1 k t1 m₀) → News h₀ L h news →
      wpAny (model prog w) A (isTrue test env (eval test env)) (TestEnd h₀ L (at1 x1 k t1 m₀) news (decide (b < k)) s) E { s with heap := h, toks := tk })
    (hb : ∀ (k : Int) t1 h tk, b < k ∧ k ≤ a1 → Fr h₀ L h (at1 x1 k t1 m₀) → News h₀ L h news →
      wpAny (model prog w) A (execs body env) (Body1 h₀ L x1 (k - 1) m₀ news s) E { s with heap := h, toks := tk })
    (done : ∀ t1 h tk, Fr h₀ L h (at1 x1 b t1 m₀) → News h₀ L h news → Q .next { s with heap := h, toks := tk }) :
    wpAny (model prog w) A (exec (.While test body [] pos) env) Q E s := by
  have e : m₀ = at1 x1 (a1 - ((0 : Nat) : Int)) t1 m₀ := at1_of (by rw [g1]; simp) (fun _ _ => rfl)
  rw [e] at F
  refine whl_start ((a1 - b).toNat + 1) (whl1 (a1 - b).toNat hE ?_ ?_ ?_ (a1 - b).toNat 0 t1 s.heap s.toks (by omega) F N)
  · intro k t1 h tk hk F N
    have e : decide (k < (a1 - b).toNat) = decide (b < a1 - (k : Int)) := decide_eq_decide.mpr (by omega)
    rw [e]
    exact ht _ t1 h tk (by omega) F N
  · intro k t1 h tk hk F N
    exact hb _ t1 h tk (by omega) F N
  · intro t1 h tk F N
    have e : a1 - (((a1 - b).toNat : Nat) : Int) = b := by omega
    rw [e] at F
    exact done t1 h tk F N
theorem body1_intro {m' : Str → Option Value} {h' : Heap} {tk' : Nat} {t1 : Tok} (F : Fr h₀ L h' m') (N : News h₀ L h' news) (e1 : m' x1 = some (.int a1 t1)) (e3 : ∀ z, z ≠ x1 → m' z = m₀ z) :
    Body1 h₀ L x1 a1 m₀ news s .next { s with heap := h', toks := tk' } := ⟨rfl, h', tk', m', rfl, F, N, ⟨t1, e1⟩, e3⟩
end

/-! items of the text's own tables at a place that is not written -/
def bef (i : Int) : Int := (235 * i + 1) / 19
def befItems : List Value := [Value.int 0 609, .int 12 610, .int 24 611, .int 37 612, .int 49 613, .int 61 614, .int 74 615, .int 86 616, .int 99 617, .int 111 618, .int 123 619, .int 136 620,
  .int 148 621, .int 160 622, .int 173 623, .int 185 624, .int 197 625, .int 210 626, .int 222 627]
theorem bef_all (i : Nat) (hi : i < 19) : ∃ t, befItems[i]? = some (.int (bef i) t) := by
  have h : i = 0 ∨ i = 1 ∨ i = 2 ∨ i = 3 ∨ i = 4 ∨ i = 5 ∨ i = 6 ∨ i = 7 ∨ i = 8 ∨ i = 9 ∨ i = 10 ∨ i = 11 ∨ i = 12 ∨ i = 13 ∨ i = 14 ∨ i = 15 ∨ i = 16 ∨ i = 17 ∨ i = 18 := by omega
  rcases h with rfl | rfl | rfl | rfl | rfl | rfl | rfl | rfl | rfl | rfl | rfl | rfl | rfl | rfl | rfl | rfl | rfl | rfl | rfl <;> exact ⟨_, rfl⟩
def rareItems : List Value := [.int 1625189 641, .int 4061669 642, .int 4084946 643]
def rare (i : Int) : Int := if i = 0 then 1625189 else if i = 1 then 4061669 else 4084946
theorem rare_all (i : Nat) (hi : i < 3) : ∃ t, rareItems[i]? = some (.int (rare i) t) := by
  have h : i = 0 ∨ i = 1 ∨ i = 2 := by omega
  rcases h with rfl | rfl | rfl <;> exact ⟨_, rfl⟩
theorem seqIdx {k : Int} {n : Nat} (h : 0 ≤ k ∧ k < n) : seqIndex? k n = some k.toNat := by
  unfold seqIndex?
  simp only [if_neg (show ¬ k < 0 by omega)]
  rw [if_pos (by simp; omega)]
section
variable {prog : Program} {w : World} {A : Around} {E : Value → Shared → Prop} {s : Shared} {Q : Value → Shared → Prop} {h₀ : Heap} {L : Addr} {m : Str → Option Value} {k : Int} {u : Tok} {value slice : PySem.Expr}
theorem item163 (F : Fr h₀ L s.heap m) (X : (hd.heap_39 w.params).In h₀) (hk : 0 ≤ k ∧ k < 19) (h : ∀ t, Q (.int (bef k) t) s)
    (hs : subscripted slice false (.ref 163) (.int k u) = operate [.ref 163, .int k u] (getItem (.ref 163) (.int k u)) := by with_unfolding_all rfl) :
    wpAny (model prog w) A (subscriptTail value slice (.ref 163) (.int k u)) Q E s := by
  obtain ⟨t, ht⟩ := bef_all k.toNat (by omega)
  rw [show ((k.toNat : Nat) : Int) = k by omega] at ht
  exact item_tupleT (l := befItems) (tup163 (X.keeps F.keep)) (by omega) (by omega) (seqIdx (n := 19) hk) ht (h t) hs
theorem item165 (F : Fr h₀ L s.heap m) (X : (hd.heap_39 w.params).In h₀) (hk : 0 ≤ k ∧ k < 3) (h : ∀ t, Q (.int (rare k) t) s)
    (hs : subscripted slice false (.ref 165) (.int k u) = operate [.ref 165, .int k u] (getItem (.ref 165) (.int k u)) := by with_unfolding_all rfl) :
    wpAny (model prog w) A (subscriptTail value slice (.ref 165) (.int k u)) Q E s := by
  obtain ⟨t, ht⟩ := rare_all k.toNat (by omega)
  rw [show ((k.toNat : Nat) : Int) = k by omega] at ht
  exact item_tupleT (l := rareItems) (tup165 (X.keeps F.keep)) (by omega) (by omega) (seqIdx (n := 3) hk) ht (h t) hs
end
end Mine
end
section
open PySem PySem.W PyProof.Rows
set_option maxRecDepth 100000
namespace Mine
open PySem.Calls PySem.Spec PyProof.V

theorem seq_iadd : isSeqSlot (some (Value.builtin "list.__iadd__")) = true := by decide +kernel
theorem fi_list : fillsInplaceSlot (.type "list") "add" true = pure false := by
  unfold fillsInplaceSlot
  show (typeLookup (.type "list") (dunderI "add") >>= fun fi => pure (fi.isSome && !isSeqSlot fi)) = pure false
  rw [PySem.F.slot_list_iadd.lookup, pure_bind, seq_iadd]
  rfl
theorem si_list : seqSlot? (.type "list") (dunderI "add") = pure (some (.builtin "list.__iadd__")) := by
  unfold seqSlot?
  rw [PySem.F.slot_list_iadd.lookup, pure_bind, seq_iadd]
  rfl
theorem inplace_list {M : Model} {A : Around} {E : Value → Shared → Prop} {s : Shared} {a b : Value} {Q : Value → Shared → Prop} (ha : s.TypeIs a "list") (hb : s.TypeIs b "list")
    (hc : wpAny M A (call (.builtin "list.__iadd__") [a, b]) Q E s) : wpAny M A (inplaceOp .Add a b) Q E s := by
  unfold inplaceOp
  refine wpAny_holding ?_
  refine wpAny_bind (wpAny_typeOf ha (wpAny_bind (wpAny_of_eq fi_list ?_)))
  show wpAny M A (if false = true then _ else _) Q E s
  rw [if_neg Bool.false_ne_true]
  refine wpAny_bind (wpAny_binaryOp1_none (nm := "add") ha hb noFill_list_add ?_)
  refine wpAny_bind (wpAny_of_eq si_list ?_)
  exact wpAny_bind (wpAny_rule hc)
section
variable {prog : Program} {w : World} {A : Around} {E : Value → Shared → Prop} {s : Shared} {h₀ : Heap} {L : Addr} {m : Str → Option Value}
theorem iadd_in {D b : Addr} {ys : List Value} {n n2 : Nat} {its2 : List Value} {own rest : List (Addr × Obj)} {Q : Value → Shared → Prop}
    (F : Fr h₀ L s.heap m) (N : News h₀ L s.heap (own ++ (D, { cls := .type "list", data := .seq ys.toArray n }) :: rest)) (hown : ∀ p ∈ own, p.1 ≠ D) (hap : ∀ p ∈ rest, p.1 ≠ D)
    (hb : s.heap.get? b = some { cls := .type "list", data := .seq its2.toArray n2 }) (hne : its2 ≠ [])
    (h : ∀ h', Fr h₀ L h' m → News h₀ L h' (own ++ (D, { cls := .type "list", data := .seq (ys ++ its2).toArray (n + 1) }) :: rest) → Q (.ref D) { s with heap := h' })
    (hsz : ys.length + its2.length ≤ sizeLine) :
    wpAny (model prog w) A (inplaceOp .Add (.ref D) (.ref b)) Q E s := by
  have hm := N _ (List.mem_append_right own (List.Mem.head rest))
  have hsz' : ys.toArray.size + its2.toArray.size ≤ sizeLine := by rw [List.size_toArray, List.size_toArray]; exact hsz
  refine inplace_list ⟨_, hm.1, rfl⟩ ⟨_, hb, rfl⟩ ?_
  refine call_meets PySem.F.slot_list_iadd ⟨_, hm.1, rfl⟩ PySem.F.entry_list_iadd (PySem.F.args_list_iadd_2 _ _) (AutoSeq1.list___iadd___list_list_0 D ys.toArray n b its2.toArray n2 (extend_door hsz') (Nat.le_trans (Nat.le_add_right _ _) hsz')) ⟨hm.1, hb, ?_⟩
  have e : ys.toArray ++ its2.toArray = (ys ++ its2).toArray := by simp
  have e2 : ((ys ++ its2).toArray.size == ys.toArray.size) = false := by
    have : 0 < its2.length := by
      cases its2 with
      | nil => exact absurd rfl hne
      | cons _ _ => simp
    simp; omega
  have ho' : (s.heap.update D (Obj.mapSeq fun x => x ++ its2.toArray)).get? D = some { cls := .type "list", data := .seq (ys ++ its2).toArray (n + 1) } := by
    rw [Heap.get?_update_self _ hm.1 (by rw [mapSeq_app]; rfl), mapSeq_app, e, e2]
    rfl
  exact h _ (F.change (Heap.SameBut.update ..) hm.2.1 hm.2.2) (N.setIn hown hap (Heap.SameBut.update ..) ho')
theorem iadd_K {D b : Addr} {ys : List Value} {n n2 : Nat} {its2 : List Value} {news news' : List (Addr × Obj)} {Q : Value → Shared → Prop}
    (F : Fr h₀ L s.heap m) (N : News h₀ L s.heap news) (hb : (b, ({ cls := .type "list", data := .seq its2.toArray n2 } : Obj)) ∈ news)
    (U : Upd D { cls := .type "list", data := .seq ys.toArray n } { cls := .type "list", data := .seq (ys ++ its2).toArray (n + 1) } news news') (hne : its2 ≠ [])
    (hsz : ys.length + its2.length ≤ sizeLine) (h : ∀ h', Fr h₀ L h' m → News h₀ L h' news' → Q (.ref D) { s with heap := h' }) :
    wpAny (model prog w) A (inplaceOp .Add (.ref D) (.ref b)) Q E s := by
  obtain ⟨pre, post, e1, e2, h1, h2⟩ := U.split
  have hb' := (N _ hb).1
  subst e1 e2
  exact iadd_in F N h1 h2 hb' hne (fun h' F' N' => h h' F' N') hsz
end
end Mine
end
section
open PySem PySem.W PyProof.Rows
set_option maxRecDepth 100000
namespace Mine
open PySem.Calls PySem.Spec PyProof.V
/-! the months of a year of sz days, from Tishri on, with their lengths -/
def monthsOf (sz : Int) : List (Int × Int) :=
  (7, 30) :: (8, if sz % 10 = 5 then 30 else 29) :: (9, if sz % 10 = 3 then 29 else 30) :: (10, 29) :: (11, 30) ::
    (if 360 < sz then [(12, 30), (13, 29), (1, 30), (2, 29), (3, 30), (4, 29), (5, 30), (6, 29)] else [(12, 29), (1, 30), (2, 29), (3, 30), (4, 29), (5, 30), (6, 29)])
theorem monthsOf_length (sz : Int) : (monthsOf sz).length = if 360 < sz then 13 else 12 := by
  unfold monthsOf
  by_cases h : 360 < sz
  · rw [if_pos h, if_pos h]; rfl
  · rw [if_neg h, if_neg h]; rfl
abbrev tup2 (m d : Int) (t1 t2 : Tok) : Obj := { cls := .type "tuple", data := .seq #[.int m t1, .int d t2] }
def Pairs (l : List (Addr × Obj)) : List Value → List (Int × Int) → Prop
  | [], [] => True
  | v :: vs, p :: ps => (∃ a t1 t2, v = .ref a ∧ (a, tup2 p.1 p.2 t1 t2) ∈ l) ∧ Pairs l vs ps
  | _, _ => False
theorem Pairs.len {l : List (Addr × Obj)} : ∀ {as : List Value} {ps : List (Int × Int)}, Pairs l as ps → as.length = ps.length
  | [], [], _ => rfl
  | [], _ :: _, h => h.elim
  | _ :: _, [], h => h.elim
  | _ :: _, _ :: _, h => congrArg (· + 1) h.2.len
theorem Pairs.at {l : List (Addr × Obj)} : ∀ {as : List Value} {ps : List (Int × Int)}, Pairs l as ps → ∀ (k : Nat), k < ps.length → ∃ a p t1 t2, as[k]? = some (.ref a) ∧ ps[k]? = some p ∧ (a, tup2 p.1 p.2 t1 t2) ∈ l
  | [], [], _, k, hk => absurd hk (Nat.not_lt_zero _)
  | [], _ :: _, h, _, _ => h.elim
  | _ :: _, [], h, _, _ => h.elim
  | v :: as, p :: ps, h, 0, _ => by
    obtain ⟨⟨a, t1, t2, rfl, hm⟩, _⟩ := h
    exact ⟨a, p, t1, t2, rfl, rfl, hm⟩
  | v :: as, p :: ps, h, k + 1, hk => by
    obtain ⟨a', p', t1, t2, e1, e2, hm⟩ := h.2.at k (by simpa using hk)
    exact ⟨a', p', t1, t2, by simpa using e1, by simpa using e2, hm⟩
theorem Pairs.take {l : List (Addr × Obj)} : ∀ {as : List Value} {ps : List (Int × Int)} (k : Nat), Pairs l as ps → Pairs l (as.take k) (ps.take k)
  | [], [], 0, _ => trivial
  | [], [], _ + 1, _ => trivial
  | [], _ :: _, _, h => h.elim
  | _ :: _, [], _, h => h.elim
  | _ :: _, _ :: _, 0, _ => trivial
  | _ :: _, _ :: _, k + 1, h => ⟨h.1, Pairs.take k h.2⟩
theorem Pairs.mono {l l' : List (Addr × Obj)} (hs : ∀ p ∈ l, p ∈ l') : ∀ {as : List Value} {ps : List (Int × Int)}, Pairs l as ps → Pairs l' as ps
  | [], [], _ => trivial
  | [], _ :: _, h => h.elim
  | _ :: _, [], h => h.elim
  | _ :: _, _ :: _, h => ⟨let ⟨a, t1, t2, e, hm⟩ := h.1; ⟨a, t1, t2, e, hs _ hm⟩, h.2.mono hs⟩
def sumOf : List (Int × Int) → Int
  | [] => 0
  | p :: r => p.2 + sumOf r
/-- the list D of the months of a year of sz days, with its tuples, in a ledger -/
structure MonthsAt (sz : Int) (D : Addr) (rs : List Value) (news : List (Addr × Obj)) : Prop where
  lst : ∃ n, (D, ({ cls := .type "list", data := .seq rs.toArray n } : Obj)) ∈ news
  prs : Pairs news rs (monthsOf sz)
theorem MonthsAt.mono {sz : Int} {D : Addr} {rs : List Value} {l l' : List (Addr × Obj)} (h : MonthsAt sz D rs l) (hs : ∀ p ∈ l, p ∈ l') : MonthsAt sz D rs l' :=
  ⟨let ⟨n, hm⟩ := h.lst; ⟨n, hs _ hm⟩, h.prs.mono hs⟩

section
variable {prog : Program} {w : World} {A : Around} {E : Value → Shared → Prop} {s : Shared} {h₀ : Heap} {L : Addr} {m : Str → Option Value} {news : List (Addr × Obj)} {sz : Int} {D : Addr} {rs : List Value}
theorem MonthsAt.len (h : MonthsAt sz D rs news) : rs.length ≤ 13 := by
  rw [h.prs.len, monthsOf_length]
  split <;> omega
theorem itemM {value slice : PySem.Expr} {k : Int} {u : Tok} {Q : Value → Shared → Prop} (N : News h₀ L s.heap news) (M : MonthsAt sz D rs news) (h0 : 0 ≤ k ∧ k < (monthsOf sz).length)
    (h : ∀ a t1 t2, News h₀ L s.heap ((a, tup2 ((monthsOf sz).getD k.toNat (0, 0)).1 ((monthsOf sz).getD k.toNat (0, 0)).2 t1 t2) :: news) → Q (.ref a) s)
    (hs : subscripted slice false (.ref D) (.int k u) = operate [.ref D, .int k u] (getItem (.ref D) (.int k u)) := by with_unfolding_all rfl) :
    wpAny (model prog w) A (subscriptTail value slice (.ref D) (.int k u)) Q E s := by
  obtain ⟨n, hm⟩ := M.lst
  have hl : s.heap.IsList D rs.toArray := ⟨_, (N _ hm).1, rfl, n, rfl⟩
  obtain ⟨a, p, t1, t2, e1, e2, hp⟩ := M.prs.at k.toNat (by omega)
  have hlen := monthsOf_length sz
  have hk : k < 2 ^ 63 := by
    have h1 := h0.2
    rw [hlen] at h1
    split at h1 <;> omega
  refine item_litK hl h0.1 hk (v := .ref a) e1 (h a t1 t2 ?_) hs
  have e3 : (monthsOf sz).getD k.toNat (0, 0) = p := by rw [List.getD_eq_getElem?_getD, e2]; rfl
  rw [e3]
  intro q hq
  rcases List.mem_cons.mp hq with rfl | hq
  · exact N _ hp
  · exact N _ hq
theorem sliceM {value slice : PySem.Expr} {k : Int} {u : Tok} {Q : Value → Shared → Prop} (F : Fr h₀ L s.heap m) (N : News h₀ L s.heap news) (M : MonthsAt sz D rs news) (h0 : 0 ≤ k)
    (h : ∀ D' h', Fr h₀ L h' m → News h₀ L h' ((D', listOf (rs.take k.toNat).toArray 0) :: news) → (∀ p ∈ news, p.1 < D') → Q (.ref D') { s with heap := h' })
    (hs : subscripted slice false (.ref D) (.ref s.heap.objs.size) = operate [.ref s.heap.objs.size, .ref D] (getItem (.ref D) (.ref s.heap.objs.size))) (ht : ∀ r, letTemporaryGo value (.ref D) r = pure ()) :
    wpAny (model prog w) A (subscriptTail value slice (.ref D) (.ref s.heap.objs.size)) Q E { s with heap := s.heap.push { cls := .type "slice", data := .fields #[.none, .int k u, .none] } } := by
  obtain ⟨n, hm⟩ := M.lst
  have hl : s.heap.IsList D rs.toArray := ⟨_, (N _ hm).1, rfl, n, rfl⟩
  have hlen := M.len
  refine kms_slice_lit F N hl IsPart.none (IsPart.int k u) ?_ h hs ht ?_
  · unfold kms_pick kms_lo kms_hi
    simp only [if_neg (show ¬ k < 0 by omega), List.drop_zero, Nat.sub_zero]
    exact kmk_take_min _ _
  · rw [List.size_toArray, sizeLine_eq]; omega
end

section
variable {prog : Program} {w : World} {A : Around} {E : Value → Shared → Prop} {s : Shared} {env : Env} {h₀ : Heap} {target : PySem.Expr} {body : List Stmt} {Q : Flow → Shared → Prop}
/-- the frame after some turns of the loop: y holds b, x1 and x2 anything, the rest as ahead -/
def AccM (x1 x2 y : Str) (b : Int) (m₀ m' : Str → Option Value) : Prop := (∃ t, m' y = some (.int b t)) ∧ ∀ z, z ≠ x1 → z ≠ x2 → z ≠ y → m' z = m₀ z
theorem endW {L I : Addr} {o : Obj} {all news : List (Addr × Obj)} {s₁ : Shared} {h' : Heap} {tk : Nat} {m' m₀ : Str → Option Value} {x1 x2 y : Str} {b b' : Int} {t : Tok}
    (F : Fr h₀ L h' m') (N : News h₀ L h' all) (hI : (I, o) ∈ all) (hs : ∀ p ∈ news, p ∈ all) (hoff : ∀ p ∈ news, p.1 < I) (e1 : m' y = some (.int b t)) (e2 : b = b') (e3 : ∀ z, z ≠ x1 → z ≠ x2 → z ≠ y → m' z = m₀ z) :
    UnrEndW h₀ L s₁ [(I, o)] (fun m' n' => n' = news ∧ AccM x1 x2 y b' m₀ m') { s₁ with heap := h', toks := tk } :=
  ⟨h', tk, m', news, rfl, F, fun p hp => by
    rcases List.mem_append.mp hp with hp | hp
    · rw [List.mem_singleton.mp hp]; exact N _ hI
    · exact N _ (hs _ hp), fun p hp q hq => by rw [List.mem_singleton.mp hq]; exact Nat.ne_of_lt (hoff p hp), rfl, ⟨t, by rw [← e2]; exact e1⟩, e3⟩
theorem itemsRest_of {I : Addr} {keep news : List (Addr × Obj)} {x1 x2 y : Str} {m₀ : Str → Option Value} (hk : SubL keep news)
    (turn : ∀ (a : Addr) (p : Int × Int) t1 t2 b m₁ h tk o, AccM x1 x2 y b m₀ m₁ → o.cls = .type "list_iterator" → Fr h₀ env.locals h m₁ → News h₀ env.locals h ((I, o) :: (a, tup2 p.1 p.2 t1 t2) :: news) →
      wpAny (model prog w) A (assign target env (.ref a)) (fun _ s₂ => wpAny (model prog w) A (execs body env) (UnrPostW h₀ env.locals { s with heap := h, toks := tk } [(I, o)] (fun m' n' => n' = news ∧ AccM x1 x2 y (b + p.2) m₀ m') Q) E s₂) E { s with heap := h, toks := tk })
    {B : Int} (done : ∀ m' h tk, AccM x1 x2 y B m₀ m' → Fr h₀ env.locals h m' → News h₀ env.locals h news → Q .next { s with heap := h, toks := tk }) :
    ∀ (as : List Value) (ps : List (Int × Int)) (b : Int) (m : Str → Option Value), Pairs news as ps → AccM x1 x2 y b m₀ m → b + sumOf ps = B →
      ItemsRest prog w A E h₀ env target body Q s [(I, "list_iterator")] keep (as.map .val) m news := by
  intro as
  induction as with
  | nil =>
    intro ps b m hp hm hb
    cases ps with
    | nil =>
      have e : b = B := by simpa [sumOf] using hb
      subst e
      exact ItemsRest.zero fun h tk F N => done m h tk hm F N
    | cons p ps => exact hp.elim
  | cons va as ih =>
    intro ps b m hp hm hb
    cases ps with
    | nil => exact hp.elim
    | cons p ps =>
      obtain ⟨⟨a, t1, t2, rfl, hmem⟩, hrest⟩ := hp
      refine ItemsRest.val fun h tk F => ?_
      refine AllObj.cons fun o hc => AllObj.nil fun N => ?_
      have N' : News h₀ env.locals h ((I, o) :: (a, tup2 p.1 p.2 t1 t2) :: news) := by
        intro q hq
        rcases List.mem_cons.mp hq with rfl | hq
        · exact N _ (List.Mem.head _)
        · rcases List.mem_cons.mp hq with rfl | hq
          · exact N _ (List.Mem.tail _ hmem)
          · exact N _ (List.Mem.tail _ hq)
      refine wpAny_mono (turn a p t1 t2 b m h tk o hm hc F N') (fun _ s₂ h₂ => wpAny_mono h₂ (fun f s₃ q => ?_) fun _ _ e => e) fun _ _ e => e
      have go : UnrEndW h₀ env.locals { s with heap := h, toks := tk } [(I, o)] (fun m' n' => n' = news ∧ AccM x1 x2 y (b + p.2) m₀ m') s₃ →
          UnrEndW h₀ env.locals { s with heap := h, toks := tk } [(I, o)] (fun m' n' => SubL keep n' ∧ ItemsRest prog w A E h₀ env target body Q s [(I, "list_iterator")] keep (as.map .val) m' n') s₃ := by
        rintro ⟨h', tk', m', n', e, F', N2, off, en, hm'⟩
        refine ⟨h', tk', m', n', e, F', N2, off, en ▸ hk, en ▸ ih ps (b + p.2) m' hrest hm' ?_⟩
        rw [← hb]
        show b + p.2 + sumOf ps = b + (p.2 + sumOf ps)
        omega
      cases f with
      | ret v => exact q
      | brk => exact q
      | next => exact go q
      | cont => exact go q
theorem iter_months {D' : Addr} {as : List Value} {ps : List (Int × Int)} {m₀ : Str → Option Value} {news : List (Addr × Obj)} (x1 x2 y : Str) {b₀ : Int} {t₀ : Tok} {n : Nat}
    (hh : A.handled = none) (F : Fr h₀ env.locals s.heap m₀) (N : News h₀ env.locals s.heap news) (hm : (D', ({ cls := .type "list", data := .seq as.toArray n } : Obj)) ∈ news) (hp : Pairs news as ps)
    (hy : m₀ y = some (.int b₀ t₀))
    (turn : ∀ (I : Addr) (a : Addr) (p : Int × Int) t1 t2 b m₁ h tk o, (∀ q ∈ news, q.1 < I) → AccM x1 x2 y b m₀ m₁ → o.cls = .type "list_iterator" → Fr h₀ env.locals h m₁ → News h₀ env.locals h ((I, o) :: (a, tup2 p.1 p.2 t1 t2) :: news) →
      wpAny (model prog w) A (assign target env (.ref a)) (fun _ s₂ => wpAny (model prog w) A (execs body env) (UnrPostW h₀ env.locals { s with heap := h, toks := tk } [(I, o)] (fun m' n' => n' = news ∧ AccM x1 x2 y (b + p.2) m₀ m') Q) E s₂) E { s with heap := h, toks := tk })
    (done : ∀ m' h tk, AccM x1 x2 y (b₀ + sumOf ps) m₀ m' → Fr h₀ env.locals h m' → News h₀ env.locals h news → Q .next { s with heap := h, toks := tk }) :
    wpAny (model prog w) A (pyIter (.ref D')) (fun it s₂ => TurnsAt prog w A h₀ env target body Q E it s₂) E s := by
  refine iter_listTurns hh F N hm rfl rfl fun I hI => ?_
  exact itemsRest_of (keep := [(D', { cls := .type "list", data := .seq as.toArray n })]) (And.intro hm trivial) (fun a p t1 t2 b m₁ h tk o h1 h2 h3 h4 => turn I a p t1 t2 b m₁ h tk o hI h1 h2 h3 h4) done as ps b₀ m₀ hp ⟨⟨t₀, hy⟩, fun _ _ _ _ => rfl⟩ rfl
end
theorem Pairs.nil {l : List (Addr × Obj)} : Pairs l [] [] := trivial
theorem Pairs.cons {l : List (Addr × Obj)} {a : Addr} {x y : Int} {t1 t2 : Tok} {vs : List Value} {ps : List (Int × Int)} (h : (a, tup2 x y t1 t2) ∈ l) (r : Pairs l vs ps) : Pairs l (.ref a :: vs) ((x, y) :: ps) :=
  ⟨⟨a, t1, t2, rfl, h⟩, r⟩
theorem monthsAt_of {sz : Int} {D : Addr} {vs : List Value} {n : Nat} {l : List (Addr × Obj)} {ps : List (Int × Int)} (h : (D, ({ cls := .type "list", data := .seq vs.toArray n } : Obj)) ∈ l) (hp : Pairs l vs ps) (e : ps = monthsOf sz) : MonthsAt sz D vs l :=
  ⟨⟨n, h⟩, e ▸ hp⟩
theorem monthsAt13 {sz : Int} {D : Addr} {vs : List Value} {n : Nat} {l : List (Addr × Obj)} (h : (D, ({ cls := .type "list", data := .seq vs.toArray n } : Obj)) ∈ l) (hs : 360 < sz)
    (hp : Pairs l vs [(7, 30), (8, if (sz % 10 == 5) = true then 30 else 29), (9, if (sz % 10 == 3) = true then 29 else 30), (10, 29), (11, 30), (12, 30), (13, 29), (1, 30), (2, 29), (3, 30), (4, 29), (5, 30), (6, 29)]) : MonthsAt sz D vs l :=
  monthsAt_of h hp (by unfold monthsOf; rw [if_pos hs]; simp only [beq_iff_eq])
theorem monthsAt12 {sz : Int} {D : Addr} {vs : List Value} {n : Nat} {l : List (Addr × Obj)} (h : (D, ({ cls := .type "list", data := .seq vs.toArray n } : Obj)) ∈ l) (hs : ¬ 360 < sz)
    (hp : Pairs l vs [(7, 30), (8, if (sz % 10 == 5) = true then 30 else 29), (9, if (sz % 10 == 3) = true then 29 else 30), (10, 29), (11, 30), (12, 29), (1, 30), (2, 29), (3, 30), (4, 29), (5, 30), (6, 29)]) : MonthsAt sz D vs l :=
  monthsAt_of h hp (by unfold monthsOf; rw [if_neg hs]; simp only [beq_iff_eq])
/-! the frame with its three names written -/
def at3 (x1 x2 y : Str) (u : Str → Option Value) (b : Int) (t : Tok) (m₀ : Str → Option Value) : Str → Option Value := fun z => if z = y then some (.int b t) else if z = x1 then u x1 else if z = x2 then u x2 else m₀ z
theorem AccM.at3 {x1 x2 y : Str} {b : Int} {m₀ m' : Str → Option Value} (h : AccM x1 x2 y b m₀ m') : ∃ u t, m' = at3 x1 x2 y u b t m₀ := by
  obtain ⟨⟨t, ht⟩, h3⟩ := h
  refine ⟨m', t, ?_⟩
  funext z
  unfold Mine.at3
  by_cases e : z = y
  · rw [if_pos e, e, ht]
  · rw [if_neg e]
    by_cases e1 : z = x1
    · rw [if_pos e1, e1]
    · rw [if_neg e1]
      by_cases e2 : z = x2
      · rw [if_pos e2, e2]
      · rw [if_neg e2]; exact h3 z e1 e2 e
end Mine
end
section
open PySem PySem.W PyProof.Rows
set_option maxRecDepth 100000
namespace Mine
open PySem.Flt PySem.Spec PySem.Calls
section
variable {prog : Program} {w : World} {A : Around} {E : Value → Shared → Prop} {s : Shared} {Q : Value → Shared → Prop} {t u : Tok}
theorem m_quarter (hA : A.handled = none) (h : Q (.float (Float64.ofFrac false 1 4) s.toks) { s with toks := s.toks + 1 }) : wpAny (model prog w) A (binaryOp .Div (.int 1 t) (.int 4 u)) Q E s :=
  div_ii_fits hA (fits_1023 (by decide)) (fun hz => absurd hz (by decide)) (fun _ _ => h)
theorem m_addq {a : Int} (ha : a.natAbs ≤ 2 ^ 50) (h : ∀ z, IsZ z (2 * a + 1) 4 → Q (.float z s.toks) { s with toks := s.toks + 1 }) : wpAny (model prog w) A (binaryOp .Add (.float (hf a) t) (.float (Float64.ofFrac false 1 4) u)) Q E s :=
  add_float (h _ (add_quarter ha))
theorem m_mod_l {a b : Int} (hb : 0 < b) (h : ∀ v, 0 ≤ v ∧ v < b → Q (.int v s.toks) { s with toks := s.toks + 1 }) : wpAny (model prog w) A (binaryOp .Mod (.int a t) (.int b u)) Q E s :=
  m_mod hb (h _ ⟨Int.emod_nonneg a (by omega), Int.emod_lt_of_pos a hb⟩)
theorem rare_b (k : Int) : 1625189 ≤ rare k ∧ rare k ≤ 4084946 := by
  unfold rare
  split
  · omega
  · split <;> omega
theorem item165_l {h₀ : Heap} {L : Addr} {m : Str → Option Value} {k : Int} {value slice : PySem.Expr} (F : Fr h₀ L s.heap m) (X : (hd.heap_39 w.params).In h₀) (hk : 0 ≤ k ∧ k < 3) (h : ∀ r t, 1625189 ≤ r ∧ r ≤ 4084946 → Q (.int r t) s)
    (hs : subscripted slice false (.ref 165) (.int k u) = operate [.ref 165, .int k u] (getItem (.ref 165) (.int k u)) := by with_unfolding_all rfl) :
    wpAny (model prog w) A (subscriptTail value slice (.ref 165) (.int k u)) Q E s := item165 F X hk (fun t => h _ t (rare_b k)) hs
end
theorem if_no {prog : Program} {w : World} {A : Around} {E : Value → Shared → Prop} {s : Shared} {env : Env} {h₀ : Heap} {L : Addr} {m : Str → Option Value} {all : List (Addr × Obj)} {test : PySem.Expr} {body : List Stmt} {pos : Pos} {Q : Flow → Shared → Prop}
    (_ : Fr h₀ L s.heap m) (_ : News h₀ L s.heap all) (h : wpAny (model prog w) A (isTrue test env (eval test env)) (TestOut h₀ L m all s false) E s)
    (k : ∀ h' tk', Fr h₀ L h' m → News h₀ L h' all → Q .next { s with heap := h', toks := tk' }) : wpAny (model prog w) A (exec (.If test body [] pos) env) Q E s := by
  refine wpAny_If (wpAny_mono h (fun b s₂ e => ?_) fun _ _ x => x)
  obtain ⟨rfl, h', tk', rfl, F', N'⟩ := e
  exact wpAny_execs_nil (k h' tk' F' N')
theorem isZ_eq {z : UInt64} {a b : Int} (h : IsZ z b 4) (e : a = b) : IsZ z a 4 := e ▸ h
theorem rare_t {r : Int} (h : ([1625189, 4061669].any fun x => x == r) = true) : r = 1625189 ∨ r = 4061669 := by
  simp only [List.any_cons, List.any_nil, Bool.or_false, Bool.or_eq_true, beq_iff_eq] at h
  omega
def there (count : Int) : Int := ij (1 + (count - 54196) / 12) (1 + (count - 54196) % 12) 1
def partsOf (count number d : Int) : Int := 25920 * (number + 1 - d - (there count + 1)) - (count - 54196)
/-- what _law_one needs to know -/
structure OneOk (count number y m d cy cm cd : Int) : Prop where
  cnt : 0 ≤ count ∧ count < 1000000000
  num : 300001 ≤ number ∧ number ≤ 31000000000
  civ : IsDate (number - 1) cy cm cd
  heb : HebOk (number - 1) y m d
  thr : 300000 ≤ there count ∧ there count ≤ 32000000000
  low : -93553 ≤ partsOf count number d
  high : partsOf count number d ≤ 38690
  rl : count % 8527680 = 1625189 ∨ count % 8527680 = 4061669 → partsOf count number d = -93553
  rh : count % 8527680 = 4084946 → partsOf count number d = 38690
end Mine
end
section
open PySem PySem.W PyProof.Rows
set_option maxRecDepth 100000
namespace Mine
abbrev tup4 (y m d l : Int) (t1 t2 t3 t4 : Tok) : Obj := { cls := .type "tuple", data := .seq #[.int y t1, .int m t2, .int d t3, .int l t4] }
def yrOf (n : Int) : Int := 19 * (n / 235) + (19 * (n % 235) + 17) / 235
def leftOf (n : Int) : Int := n % 235 - bef ((19 * (n % 235) + 17) / 235)
def szOf (n : Int) : Int := spring (yrOf n + 1) + 163 - (spring (yrOf n) + 163)
def MonthIs (n m9 n9 l9 : Int) : Prop :=
  m9 = ((monthsOf (szOf n)).getD (leftOf n).toNat (0, 0)).1 ∧ l9 = ((monthsOf (szOf n)).getD (leftOf n).toNat (0, 0)).2 ∧ n9 = spring (yrOf n) + 163 + sumOf ((monthsOf (szOf n)).take (leftOf n).toNat)
end Mine
end
section
namespace Mine
/-! Gauss's Passover and the molad of the Tishri behind it -/
theorem months_of (y : Int) : 19 * months (y + 1) = 235 * y - 17 + (12 * y + 17) % 19 := by
  rw [months_eq]
  have e : 7 * (y + 1) + 13 = 7 * y + 20 := by omega
  have e2 : (12 * y + 17) % 19 = 18 - (7 * y + 1) % 19 := by omega
  rw [e, e2]
  clear e e2
  omega
theorem gauss_pq (y : Int) : 19 * pq (y + 1) = mM y + 492480 * (365 * y + y / 4 - 58) := by
  have h := months_of y
  unfold pq mM
  generalize (12 * y + 17) % 19 = g at *
  omega
theorem gold_leap (y : Int) : (leapB (y + 1) = false ↔ 6 < (12 * y + 17) % 19) ∧ (leapB y = true ↔ 11 < (12 * y + 17) % 19) := by
  have e2 : (12 * y + 17) % 19 = 18 - (y * 7 + 1) % 19 := by omega
  have e : ((y + 1) * 7 + 1) % 19 = ((y * 7 + 1) % 19 + 7) % 19 := by omega
  unfold leapB
  rw [e2, e, decide_eq_true_eq, decide_eq_false_iff_not]
  clear e e2
  have hr : 0 ≤ (y * 7 + 1) % 19 ∧ (y * 7 + 1) % 19 < 19 := by omega
  generalize (y * 7 + 1) % 19 = r at *
  omega
theorem spring_T (y : Int) : spring y + 163 = 347998 + T (y + 1) := by
  have hp := gauss_pq y
  obtain ⟨g1, g2⟩ := gold_leap y
  have hT := T_eq (y + 1)
  rw [Int.add_sub_cancel] at hT
  have e1 : pq (y + 1) / 25920 = mM y / 492480 + 365 * y + y / 4 - 58 := by omega
  have e2 : mM y % 492480 = 19 * (pq (y + 1) % 25920) := by omega
  have e3 : (mM y / 492480 + 3 * y + 5 * (y % 4) + 5) % 7 = pq (y + 1) / 25920 % 7 := by rw [e1]; omega
  have e4 : post ((mM y / 492480 + 3 * y + 5 * (y % 4) + 5) % 7) ((12 * y + 17) % 19) (mM y % 492480) = del (pq (y + 1) / 25920 % 7) (pq (y + 1) % 25920) (leapB (y + 1)) (leapB y) := by
    rw [e3, e2]
    unfold post del
    generalize pq (y + 1) / 25920 % 7 = w
    generalize pq (y + 1) % 25920 = p
    by_cases h1 : w = 2 ∨ w = 4 ∨ w = 6
    · rw [if_pos h1, if_pos h1]
    · rw [if_neg h1, if_neg h1]
      by_cases h2 : w = 1 ∧ leapB (y + 1) = false ∧ 16404 ≤ p
      · rw [if_pos h2, if_pos ⟨h2.1, g1.mp h2.2.1, by omega⟩]
      · rw [if_neg h2, if_neg (fun h => h2 ⟨h.1, g1.mpr h.2.1, by omega⟩)]
        by_cases h3 : w = 0 ∧ leapB y = true ∧ 23269 ≤ p
        · rw [if_pos h3, if_pos ⟨h3.1, g2.mp h3.2.1, by omega⟩]
        · rw [if_neg h3, if_neg (fun h => h3 ⟨h.1, g2.mpr h.2.1, by omega⟩)]
  unfold spring march
  rw [e4, hT, e1]
  omega
end Mine
end
section
namespace Mine
/-! the months of a Hebrew year: lengths and the days ahead of them -/
section
variable (y : Int)
theorem ml_7 : ml y 7 = 30 := by unfold ml; simp
theorem ml_8 : ml y 8 = if yd y % 10 = 5 then 30 else 29 := by unfold ml; simp
theorem ml_9 : ml y 9 = if yd y % 10 = 3 then 29 else 30 := by unfold ml; simp
theorem ml_10 : ml y 10 = 29 := by unfold ml; simp
theorem ml_11 : ml y 11 = 30 := by unfold ml; simp
theorem ml_12 : ml y 12 = if leapB y = true then 30 else 29 := by unfold ml; cases leapB y <;> simp
theorem ml_13 : ml y 13 = 29 := by unfold ml; simp
theorem ml_1 : ml y 1 = 30 := by unfold ml; simp
theorem ml_2 : ml y 2 = 29 := by unfold ml; simp
theorem ml_3 : ml y 3 = 30 := by unfold ml; simp
theorem ml_4 : ml y 4 = 29 := by unfold ml; simp
theorem ml_5 : ml y 5 = 30 := by unfold ml; simp
theorem ml_6 : ml y 6 = 29 := by unfold ml; simp
end
/-- the whole table: A and B the lengths of the months 8 and 9, Z the days from Tishri to Nisan -/
structure Tab (y A B Z : Int) : Prop where
  l7 : ml y 7 = 30
  l8 : ml y 8 = A
  l9 : ml y 9 = B
  l10 : ml y 10 = 29
  l11 : ml y 11 = 30
  l12 : ml y 12 = Z - 89 - A - B - (if leapB y = true then 29 else 0)
  l13 : ml y 13 = 29
  l1 : ml y 1 = 30
  l2 : ml y 2 = 29
  l3 : ml y 3 = 30
  l4 : ml y 4 = 29
  l5 : ml y 5 = 30
  l6 : ml y 6 = 29
  o7 : off y 7 = 0
  o8 : off y 8 = 30
  o9 : off y 9 = 30 + A
  o10 : off y 10 = 30 + A + B
  o11 : off y 11 = 59 + A + B
  o12 : off y 12 = 89 + A + B
  o13 : off y 13 = 89 + A + B + ml y 12
  o1 : off y 1 = Z
  o2 : off y 2 = Z + 30
  o3 : off y 3 = Z + 59
  o4 : off y 4 = Z + 89
  o5 : off y 5 = Z + 118
  o6 : off y 6 = Z + 148
  hA : A = if yd y % 10 = 5 then 30 else 29
  hB : B = if yd y % 10 = 3 then 29 else 30
  hZ : Z = if leapB y = true then 148 + A + B else 118 + A + B
theorem tab (y : Int) : ∃ A B Z, Tab y A B Z := by
  refine ⟨ml y 8, ml y 9, if leapB y = true then 148 + ml y 8 + ml y 9 else 118 + ml y 8 + ml y 9, ?_⟩
  have h7 := ml_7 y
  have h10 := ml_10 y
  have h11 := ml_11 y
  have h12 := ml_12 y
  have h13 := ml_13 y
  have h1 := ml_1 y
  have h2 := ml_2 y
  have h3 := ml_3 y
  have h4 := ml_4 y
  have h5 := ml_5 y
  have h6 := ml_6 y
  refine ⟨h7, rfl, rfl, h10, h11, ?_, h13, h1, h2, h3, h4, h5, h6, ?_, ?_, ?_, ?_, ?_, ?_, ?_, ?_, ?_, ?_, ?_, ?_, ?_, ml_8 y, ml_9 y, rfl⟩
  · rw [h12]; cases leapB y <;> simp <;> omega
  all_goals (unfold off s7 s1; rw [h7, h10, h11, h12, h13, h1, h2, h3, h4, h5]; cases leapB y <;> simp <;> omega)
/-- the year's size fits its months -/
theorem tab_sz {y A B Z : Int} (t : Tab y A B Z) : yd y = Z + 177 ∧ 29 ≤ A ∧ A ≤ 30 ∧ 29 ≤ B ∧ B ≤ 30 ∧ (leapB y = true ↔ 360 < yd y) := by
  have hA := t.hA
  have hB := t.hB
  have hZ := t.hZ
  obtain ⟨dl, sz, p, k, h⟩ := kinds y
  have hs := k.s
  rw [hs] at hA hB
  rw [hs]
  rcases h with ⟨hl, h⟩ | ⟨hl, h⟩
  · rw [hl, if_neg (by decide)] at hZ
    rw [hl]
    have : sz = 353 ∨ sz = 354 ∨ sz = 355 := by omega
    refine ⟨by omega, by omega, by omega, by omega, by omega, fun h => absurd h (by decide), fun _ => by omega⟩
  · rw [hl, if_pos rfl] at hZ
    rw [hl]
    have : sz = 383 ∨ sz = 384 ∨ sz = 385 := by omega
    refine ⟨by omega, by omega, by omega, by omega, by omega, fun _ => by omega, fun _ => rfl⟩
end Mine
end
section
namespace Mine
theorem at_month {y j A B Z : Int} (t : Tab y A B Z) (hj : 0 ≤ j ∧ j < if leapB y = true then 13 else 12) : ∃ M, (1 ≤ M ∧ M ≤ 13) ∧ ((monthsOf (yd y)).getD j.toNat (0, 0)).1 = M ∧ ((monthsOf (yd y)).getD j.toNat (0, 0)).2 = ml y M ∧ sumOf ((monthsOf (yd y)).take j.toNat) = off y M ∧
    (leapB y = true ∧ (j ≤ 6 ∧ M = j + 7 ∨ 7 ≤ j ∧ j ≤ 12 ∧ M = j - 6) ∨ leapB y = false ∧ (j ≤ 5 ∧ M = j + 7 ∨ 6 ≤ j ∧ j ≤ 11 ∧ M = j - 5)) := by
  obtain ⟨hs, _, _, _, _, h3⟩ := tab_sz t
  cases hl : leapB y with
  | true =>
    rw [hl, if_pos rfl] at hj
    have hm : monthsOf (yd y) = [(7, 30), (8, A), (9, B), (10, 29), (11, 30), (12, 30), (13, 29), (1, 30), (2, 29), (3, 30), (4, 29), (5, 30), (6, 29)] := by
      unfold monthsOf
      rw [if_pos (h3.mp hl), ← t.hA, ← t.hB]
    have l12 : ml y 12 = 30 := by rw [ml_12, hl]; rfl
    have hz : Z = 148 + A + B := by rw [t.hZ, hl]; rfl
    rw [hm]
    have hc : j = 0 ∨ j = 1 ∨ j = 2 ∨ j = 3 ∨ j = 4 ∨ j = 5 ∨ j = 6 ∨ j = 7 ∨ j = 8 ∨ j = 9 ∨ j = 10 ∨ j = 11 ∨ j = 12 := by omega
    rcases hc with rfl | rfl | rfl | rfl | rfl | rfl | rfl | rfl | rfl | rfl | rfl | rfl | rfl
    · exact ⟨7, by decide, rfl, by rw [t.l7]; rfl, by rw [t.o7]; dsimp [sumOf] <;> omega, .inl ⟨rfl, .inl ⟨by decide, by decide⟩⟩⟩
    · exact ⟨8, by decide, rfl, by rw [t.l8]; rfl, by rw [t.o8]; dsimp [sumOf] <;> omega, .inl ⟨rfl, .inl ⟨by decide, by decide⟩⟩⟩
    · exact ⟨9, by decide, rfl, by rw [t.l9]; rfl, by rw [t.o9]; dsimp [sumOf] <;> omega, .inl ⟨rfl, .inl ⟨by decide, by decide⟩⟩⟩
    · exact ⟨10, by decide, rfl, by rw [t.l10]; rfl, by rw [t.o10]; dsimp [sumOf] <;> omega, .inl ⟨rfl, .inl ⟨by decide, by decide⟩⟩⟩
    · exact ⟨11, by decide, rfl, by rw [t.l11]; rfl, by rw [t.o11]; dsimp [sumOf] <;> omega, .inl ⟨rfl, .inl ⟨by decide, by decide⟩⟩⟩
    · exact ⟨12, by decide, rfl, by rw [l12]; rfl, by rw [t.o12]; dsimp [sumOf] <;> omega, .inl ⟨rfl, .inl ⟨by decide, by decide⟩⟩⟩
    · exact ⟨13, by decide, rfl, by rw [t.l13]; rfl, by rw [t.o13, l12]; dsimp [sumOf] <;> omega, .inl ⟨rfl, .inl ⟨by decide, by decide⟩⟩⟩
    · exact ⟨1, by decide, rfl, by rw [t.l1]; rfl, by rw [t.o1]; dsimp [sumOf] <;> omega, .inl ⟨rfl, .inr ⟨by decide, by decide, by decide⟩⟩⟩
    · exact ⟨2, by decide, rfl, by rw [t.l2]; rfl, by rw [t.o2]; dsimp [sumOf] <;> omega, .inl ⟨rfl, .inr ⟨by decide, by decide, by decide⟩⟩⟩
    · exact ⟨3, by decide, rfl, by rw [t.l3]; rfl, by rw [t.o3]; dsimp [sumOf] <;> omega, .inl ⟨rfl, .inr ⟨by decide, by decide, by decide⟩⟩⟩
    · exact ⟨4, by decide, rfl, by rw [t.l4]; rfl, by rw [t.o4]; dsimp [sumOf] <;> omega, .inl ⟨rfl, .inr ⟨by decide, by decide, by decide⟩⟩⟩
    · exact ⟨5, by decide, rfl, by rw [t.l5]; rfl, by rw [t.o5]; dsimp [sumOf] <;> omega, .inl ⟨rfl, .inr ⟨by decide, by decide, by decide⟩⟩⟩
    · exact ⟨6, by decide, rfl, by rw [t.l6]; rfl, by rw [t.o6]; dsimp [sumOf] <;> omega, .inl ⟨rfl, .inr ⟨by decide, by decide, by decide⟩⟩⟩
  | false =>
    rw [hl, if_neg (by decide)] at hj
    have hm : monthsOf (yd y) = [(7, 30), (8, A), (9, B), (10, 29), (11, 30), (12, 29), (1, 30), (2, 29), (3, 30), (4, 29), (5, 30), (6, 29)] := by
      unfold monthsOf
      rw [if_neg (show ¬ 360 < yd y from fun h => by have := h3.mpr h; rw [hl] at this; cases this), ← t.hA, ← t.hB]
    have l12 : ml y 12 = 29 := by rw [ml_12, hl]; rfl
    have hz : Z = 118 + A + B := by rw [t.hZ, hl]; rfl
    rw [hm]
    have hc : j = 0 ∨ j = 1 ∨ j = 2 ∨ j = 3 ∨ j = 4 ∨ j = 5 ∨ j = 6 ∨ j = 7 ∨ j = 8 ∨ j = 9 ∨ j = 10 ∨ j = 11 := by omega
    rcases hc with rfl | rfl | rfl | rfl | rfl | rfl | rfl | rfl | rfl | rfl | rfl | rfl
    · exact ⟨7, by decide, rfl, by rw [t.l7]; rfl, by rw [t.o7]; dsimp [sumOf] <;> omega, .inr ⟨rfl, .inl ⟨by decide, by decide⟩⟩⟩
    · exact ⟨8, by decide, rfl, by rw [t.l8]; rfl, by rw [t.o8]; dsimp [sumOf] <;> omega, .inr ⟨rfl, .inl ⟨by decide, by decide⟩⟩⟩
    · exact ⟨9, by decide, rfl, by rw [t.l9]; rfl, by rw [t.o9]; dsimp [sumOf] <;> omega, .inr ⟨rfl, .inl ⟨by decide, by decide⟩⟩⟩
    · exact ⟨10, by decide, rfl, by rw [t.l10]; rfl, by rw [t.o10]; dsimp [sumOf] <;> omega, .inr ⟨rfl, .inl ⟨by decide, by decide⟩⟩⟩
    · exact ⟨11, by decide, rfl, by rw [t.l11]; rfl, by rw [t.o11]; dsimp [sumOf] <;> omega, .inr ⟨rfl, .inl ⟨by decide, by decide⟩⟩⟩
    · exact ⟨12, by decide, rfl, by rw [l12]; rfl, by rw [t.o12]; dsimp [sumOf] <;> omega, .inr ⟨rfl, .inl ⟨by decide, by decide⟩⟩⟩
    · exact ⟨1, by decide, rfl, by rw [t.l1]; rfl, by rw [t.o1]; dsimp [sumOf] <;> omega, .inr ⟨rfl, .inr ⟨by decide, by decide, by decide⟩⟩⟩
    · exact ⟨2, by decide, rfl, by rw [t.l2]; rfl, by rw [t.o2]; dsimp [sumOf] <;> omega, .inr ⟨rfl, .inr ⟨by decide, by decide, by decide⟩⟩⟩
    · exact ⟨3, by decide, rfl, by rw [t.l3]; rfl, by rw [t.o3]; dsimp [sumOf] <;> omega, .inr ⟨rfl, .inr ⟨by decide, by decide, by decide⟩⟩⟩
    · exact ⟨4, by decide, rfl, by rw [t.l4]; rfl, by rw [t.o4]; dsimp [sumOf] <;> omega, .inr ⟨rfl, .inr ⟨by decide, by decide, by decide⟩⟩⟩
    · exact ⟨5, by decide, rfl, by rw [t.l5]; rfl, by rw [t.o5]; dsimp [sumOf] <;> omega, .inr ⟨rfl, .inr ⟨by decide, by decide, by decide⟩⟩⟩
    · exact ⟨6, by decide, rfl, by rw [t.l6]; rfl, by rw [t.o6]; dsimp [sumOf] <;> omega, .inr ⟨rfl, .inr ⟨by decide, by decide, by decide⟩⟩⟩
/-- no month ends behind the year -/
theorem off_end {y A B Z M : Int} (t : Tab y A B Z) (h : (1 ≤ M ∧ M ≤ 13) ∧ (M = 13 → leapB y = true)) : off y M + ml y M ≤ yd y ∧ 0 ≤ off y M ∧ (7 ≤ M → off y M + ml y M ≤ Z) ∧ (M < 7 → Z ≤ off y M) := by
  obtain ⟨hs, _, _, _, _, h3⟩ := tab_sz t
  have hz := t.hZ
  have l12 := t.l12
  have hc : M = 1 ∨ M = 2 ∨ M = 3 ∨ M = 4 ∨ M = 5 ∨ M = 6 ∨ M = 7 ∨ M = 8 ∨ M = 9 ∨ M = 10 ∨ M = 11 ∨ M = 12 ∨ M = 13 := by omega
  rcases hc with rfl | rfl | rfl | rfl | rfl | rfl | rfl | rfl | rfl | rfl | rfl | rfl | rfl
  · rw [t.o1, t.l1]; have := h.2; cases hl : leapB y <;> rw [hl] at hz l12 this <;> simp at hz l12 this <;> omega
  · rw [t.o2, t.l2]; have := h.2; cases hl : leapB y <;> rw [hl] at hz l12 this <;> simp at hz l12 this <;> omega
  · rw [t.o3, t.l3]; have := h.2; cases hl : leapB y <;> rw [hl] at hz l12 this <;> simp at hz l12 this <;> omega
  · rw [t.o4, t.l4]; have := h.2; cases hl : leapB y <;> rw [hl] at hz l12 this <;> simp at hz l12 this <;> omega
  · rw [t.o5, t.l5]; have := h.2; cases hl : leapB y <;> rw [hl] at hz l12 this <;> simp at hz l12 this <;> omega
  · rw [t.o6, t.l6]; have := h.2; cases hl : leapB y <;> rw [hl] at hz l12 this <;> simp at hz l12 this <;> omega
  · rw [t.o7, t.l7]; have := h.2; cases hl : leapB y <;> rw [hl] at hz l12 this <;> simp at hz l12 this <;> omega
  · rw [t.o8, t.l8]; have := h.2; cases hl : leapB y <;> rw [hl] at hz l12 this <;> simp at hz l12 this <;> omega
  · rw [t.o9, t.l9]; have := h.2; cases hl : leapB y <;> rw [hl] at hz l12 this <;> simp at hz l12 this <;> omega
  · rw [t.o10, t.l10]; have := h.2; cases hl : leapB y <;> rw [hl] at hz l12 this <;> simp at hz l12 this <;> omega
  · rw [t.o11, t.l11]; have := h.2; cases hl : leapB y <;> rw [hl] at hz l12 this <;> simp at hz l12 this <;> omega
  · rw [t.o12]; have := h.2; cases hl : leapB y <;> rw [hl] at hz l12 this <;> simp at hz l12 this <;> (try rw [l12]) <;> (try rw [t.l13]) <;> omega
  · rw [t.o13]; have := h.2; cases hl : leapB y <;> rw [hl] at hz l12 this <;> simp at hz l12 this <;> (try rw [l12]) <;> (try rw [t.l13]) <;> omega
/-- the next month begins where this one ends -/
theorem off_next {y A B Z i : Int} (t : Tab y A B Z) (h : 7 ≤ i ∧ i ≤ 12 ∨ 1 ≤ i ∧ i ≤ 5) : off y (i + 1) = off y i + ml y i := by
  have l12 := t.l12
  have hz := t.hZ
  have hc : i = 1 ∨ i = 2 ∨ i = 3 ∨ i = 4 ∨ i = 5 ∨ i = 7 ∨ i = 8 ∨ i = 9 ∨ i = 10 ∨ i = 11 ∨ i = 12 := by omega
  rcases hc with rfl | rfl | rfl | rfl | rfl | rfl | rfl | rfl | rfl | rfl | rfl
  · show off y 2 = _; rw [t.o2, t.o1, t.l1]; try omega
  · show off y 3 = _; rw [t.o3, t.o2, t.l2]; try omega
  · show off y 4 = _; rw [t.o4, t.o3, t.l3]; try omega
  · show off y 5 = _; rw [t.o5, t.o4, t.l4]; try omega
  · show off y 6 = _; rw [t.o6, t.o5, t.l5]; try omega
  · show off y 8 = _; rw [t.o8, t.o7, t.l7]; try omega
  · show off y 9 = _; rw [t.o9, t.o8, t.l8]; try omega
  · show off y 10 = _; rw [t.o10, t.o9, t.l9]; try omega
  · show off y 11 = _; rw [t.o11, t.o10, t.l10]; try omega
  · show off y 12 = _; rw [t.o12, t.o11, t.l11]; try omega
  · show off y 13 = _; rw [t.o13, t.o12]; try omega
theorem off_mono {y A B Z i m : Int} (t : Tab y A B Z) (h : 7 ≤ i ∧ i < m ∧ m ≤ 13 ∨ 1 ≤ i ∧ i < m ∧ m ≤ 6) : off y i + ml y i ≤ off y m := by
  have key : ∀ (k : Nat), (7 ≤ i ∧ i + 1 + k ≤ 13 ∨ 1 ≤ i ∧ i + 1 + k ≤ 6) → off y i + ml y i ≤ off y (i + 1 + k) := by
    intro k
    induction k with
    | zero =>
      intro hk
      rw [show i + 1 + ((0 : Nat) : Int) = i + 1 by omega, off_next t (by omega)]
      exact Int.le_refl _
    | succ k ih =>
      intro hk
      have h1 := ih (by omega)
      have h2 := off_next (i := i + 1 + k) t (by omega)
      have h3 := ml_bound y (i + 1 + k)
      rw [show i + 1 + ((k + 1 : Nat) : Int) = i + 1 + k + 1 by omega, h2]
      omega
  have := key (m - i - 1).toNat (by omega)
  rw [show i + 1 + ((m - i - 1).toNat : Int) = m by omega] at this
  exact this
end Mine
end
section
namespace Mine
/-! the parts by which the two calendars part -/
def eOf (n : Int) : Int := 864 * ((14 + 11 * ((n - 54196) / 12)) % 30) - 12096 + 792 * ((n - 54196) % 12) - 12960 * ((n - 54196) % 12 % 2)
theorem there_eq (n : Int) : 25920 * (there n + 1) = 25920 * 1948440 + 765432 * (n - 54196) - eOf n := by
  unfold there ij eOf
  have e1 : 1 + (n - 54196) / 12 - 1 = (n - 54196) / 12 := by omega
  have e2 : 1 + (n - 54196) % 12 - 1 = (n - 54196) % 12 := by omega
  have e3 : 3 + 11 * (1 + (n - 54196) / 12) = 14 + 11 * ((n - 54196) / 12) := by omega
  rw [e1, e2, e3]
  have e4 : n - 54196 = 12 * ((n - 54196) / 12) + (n - 54196) % 12 := by omega
  have e5 : 0 ≤ (n - 54196) % 12 ∧ (n - 54196) % 12 < 12 := by omega
  clear e1 e2 e3
  generalize (n - 54196) / 12 = a at *
  generalize (n - 54196) % 12 = v at *
  rw [e4]
  clear e4
  omega
theorem e_facts (n : Int) : -24264 ≤ eOf n ∧ eOf n ≤ 20880 ∧ (20845 < eOf n → eOf n = 20880 ∧ n % 360 = 26) ∧ (eOf n < -24123 → eOf n = -24264 ∧ n % 360 = 149) := by
  unfold eOf
  have e4 : n = 54196 + 12 * ((n - 54196) / 12) + (n - 54196) % 12 := by omega
  have e5 : 0 ≤ (n - 54196) % 12 ∧ (n - 54196) % 12 < 12 := by omega
  generalize (n - 54196) / 12 = a at *
  generalize (n - 54196) % 12 = v at *
  subst e4
  have hg : 0 ≤ (14 + 11 * a) % 30 ∧ (14 + 11 * a) % 30 < 30 := by omega
  have hv : v = 0 ∨ v = 1 ∨ v = 2 ∨ v = 3 ∨ v = 4 ∨ v = 5 ∨ v = 6 ∨ v = 7 ∨ v = 8 ∨ v = 9 ∨ v = 10 ∨ v = 11 := by omega
  rcases hv with rfl | rfl | rfl | rfl | rfl | rfl | rfl | rfl | rfl | rfl | rfl | rfl <;> refine ⟨by omega, by omega, fun h => ⟨by omega, by omega⟩, fun h => ⟨by omega, by omega⟩⟩
theorem parts_eq {n y j dl o p : Int} (hn : n = months y + j) (hT : T y = pq y / 25920 + dl) : partsOf n (347998 + T y + o + p) (p + 1) = -37688 - 765433 * j + 25920 * (dl + o) - pq y % 25920 + eOf n := by
  have h := there_eq n
  unfold partsOf
  have hq : pq y = 12084 + 765433 * months y := rfl
  generalize there n = t at *
  generalize eOf n = e at *
  generalize months y = m at *
  generalize pq y = P at *
  omega
set_option maxHeartbeats 4000000 in
theorem parts_bound {n y j M A B Z : Int} (t : Tab y A B Z) (hn : n = months y + j)
    (hM : leapB y = true ∧ (0 ≤ j ∧ j ≤ 6 ∧ M = j + 7 ∨ 7 ≤ j ∧ j ≤ 12 ∧ M = j - 6) ∨ leapB y = false ∧ (0 ≤ j ∧ j ≤ 5 ∧ M = j + 7 ∨ 6 ≤ j ∧ j ≤ 11 ∧ M = j - 5)) :
    ∀ dl, T y = pq y / 25920 + dl → -93553 ≤ -37688 - 765433 * j + 25920 * (dl + off y M) - pq y % 25920 + eOf n ∧ -37688 - 765433 * j + 25920 * (dl + off y M) - pq y % 25920 + eOf n ≤ 38690 := by
  intro dl hdl
  obtain ⟨dl', sz, p, k, h⟩ := kinds y
  have ed : dl = dl' := by have := k.T; omega
  subst ed
  have hs := k.s
  have hp := k.p
  have hA := t.hA
  have hB := t.hB
  rw [hs] at hA hB
  rw [← hp]
  have hpq : p = (12084 + 765433 * (n - j)) % 25920 := by rw [hp]; unfold pq; rw [hn]; congr 1; omega
  obtain ⟨f1, f2, f3, f4⟩ := e_facts n
  have l12 := t.l12
  have hz := t.hZ
  have hpb : 0 ≤ p ∧ p < 25920 := by omega
  clear hs hp k hdl hn
  generalize eOf n = e at *
  rcases hM with ⟨hl, hM⟩ | ⟨hl, hM⟩
  · rcases h with ⟨hl', h⟩ | ⟨_, h⟩
    · rw [hl] at hl'; cases hl'
    rw [hl, if_pos rfl] at hz l12
    rcases h with ⟨rfl, ⟨rfl, h⟩ | rfl | rfl⟩ | ⟨rfl, rfl | ⟨rfl, h⟩⟩
    · have hA : A = 29 := by rw [hA]; rfl
      have hB : B = 29 := by rw [hB]; rfl
      subst hA hB
      rcases hM with ⟨h0, h6, rfl⟩ | ⟨h7, h12, rfl⟩
      · have hc : j = 0 ∨ j = 1 ∨ j = 2 ∨ j = 3 ∨ j = 4 ∨ j = 5 ∨ j = 6 := by omega
        rcases hc with rfl | rfl | rfl | rfl | rfl | rfl | rfl
        · rw [show off y (0 + 7) = _ from t.o7]; clear hpq f3 f4; constructor <;> omega
        · rw [show off y (1 + 7) = _ from t.o8]; clear hpq f3 f4; constructor <;> omega
        · rw [show off y (2 + 7) = _ from t.o9]; clear hpq f3 f4; constructor <;> omega
        · rw [show off y (3 + 7) = _ from t.o10]; clear hpq f3 f4; constructor <;> omega
        · rw [show off y (4 + 7) = _ from t.o11]; constructor <;> omega
        · rw [show off y (5 + 7) = _ from t.o12]; clear hpq f3 f4; constructor <;> omega
        · rw [show off y (6 + 7) = _ from t.o13, l12]; clear hpq f3 f4; constructor <;> omega
      · have hc : j = 7 ∨ j = 8 ∨ j = 9 ∨ j = 10 ∨ j = 11 ∨ j = 12 := by omega
        rcases hc with rfl | rfl | rfl | rfl | rfl | rfl
        · rw [show off y (7 - 6) = _ from t.o1]; clear hpq f3 f4; constructor <;> omega
        · rw [show off y (8 - 6) = _ from t.o2]; clear hpq f3 f4; constructor <;> omega
        · rw [show off y (9 - 6) = _ from t.o3]; clear hpq f3 f4; constructor <;> omega
        · rw [show off y (10 - 6) = _ from t.o4]; clear hpq f3 f4; constructor <;> omega
        · rw [show off y (11 - 6) = _ from t.o5]; clear hpq f3 f4; constructor <;> omega
        · rw [show off y (12 - 6) = _ from t.o6]; clear hpq f3 f4; constructor <;> omega
    · have hA : A = 29 := by rw [hA]; rfl
      have hB : B = 30 := by rw [hB]; rfl
      subst hA hB
      rcases hM with ⟨h0, h6, rfl⟩ | ⟨h7, h12, rfl⟩
      · have hc : j = 0 ∨ j = 1 ∨ j = 2 ∨ j = 3 ∨ j = 4 ∨ j = 5 ∨ j = 6 := by omega
        rcases hc with rfl | rfl | rfl | rfl | rfl | rfl | rfl
        · rw [show off y (0 + 7) = _ from t.o7]; clear hpq f3 f4; constructor <;> omega
        · rw [show off y (1 + 7) = _ from t.o8]; clear hpq f3 f4; constructor <;> omega
        · rw [show off y (2 + 7) = _ from t.o9]; clear hpq f3 f4; constructor <;> omega
        · rw [show off y (3 + 7) = _ from t.o10]; clear hpq f3 f4; constructor <;> omega
        · rw [show off y (4 + 7) = _ from t.o11]; clear hpq f3 f4; constructor <;> omega
        · rw [show off y (5 + 7) = _ from t.o12]; clear hpq f3 f4; constructor <;> omega
        · rw [show off y (6 + 7) = _ from t.o13, l12]; clear hpq f3 f4; constructor <;> omega
      · have hc : j = 7 ∨ j = 8 ∨ j = 9 ∨ j = 10 ∨ j = 11 ∨ j = 12 := by omega
        rcases hc with rfl | rfl | rfl | rfl | rfl | rfl
        · rw [show off y (7 - 6) = _ from t.o1]; clear hpq f3 f4; constructor <;> omega
        · rw [show off y (8 - 6) = _ from t.o2]; clear hpq f3 f4; constructor <;> omega
        · rw [show off y (9 - 6) = _ from t.o3]; clear hpq f3 f4; constructor <;> omega
        · rw [show off y (10 - 6) = _ from t.o4]; clear hpq f3 f4; constructor <;> omega
        · rw [show off y (11 - 6) = _ from t.o5]; clear hpq f3 f4; constructor <;> omega
        · rw [show off y (12 - 6) = _ from t.o6]; clear hpq f3 f4; constructor <;> omega
    · have hA : A = 30 := by rw [hA]; rfl
      have hB : B = 30 := by rw [hB]; rfl
      subst hA hB
      rcases hM with ⟨h0, h6, rfl⟩ | ⟨h7, h12, rfl⟩
      · have hc : j = 0 ∨ j = 1 ∨ j = 2 ∨ j = 3 ∨ j = 4 ∨ j = 5 ∨ j = 6 := by omega
        rcases hc with rfl | rfl | rfl | rfl | rfl | rfl | rfl
        · rw [show off y (0 + 7) = _ from t.o7]; clear hpq f3 f4; constructor <;> omega
        · rw [show off y (1 + 7) = _ from t.o8]; clear hpq f3 f4; constructor <;> omega
        · rw [show off y (2 + 7) = _ from t.o9]; clear hpq f3 f4; constructor <;> omega
        · rw [show off y (3 + 7) = _ from t.o10]; clear hpq f3 f4; constructor <;> omega
        · rw [show off y (4 + 7) = _ from t.o11]; clear hpq f3 f4; constructor <;> omega
        · rw [show off y (5 + 7) = _ from t.o12]; clear hpq f3 f4; constructor <;> omega
        · rw [show off y (6 + 7) = _ from t.o13, l12]; clear hpq f3 f4; constructor <;> omega
      · have hc : j = 7 ∨ j = 8 ∨ j = 9 ∨ j = 10 ∨ j = 11 ∨ j = 12 := by omega
        rcases hc with rfl | rfl | rfl | rfl | rfl | rfl
        · rw [show off y (7 - 6) = _ from t.o1]; clear hpq f3 f4; constructor <;> omega
        · rw [show off y (8 - 6) = _ from t.o2]; clear hpq f3 f4; constructor <;> omega
        · rw [show off y (9 - 6) = _ from t.o3]; clear hpq f3 f4; constructor <;> omega
        · rw [show off y (10 - 6) = _ from t.o4]; clear hpq f3 f4; constructor <;> omega
        · rw [show off y (11 - 6) = _ from t.o5]; clear hpq f3 f4; constructor <;> omega
        · rw [show off y (12 - 6) = _ from t.o6]; clear hpq f3 f4; constructor <;> omega
    · have hA : A = 29 := by rw [hA]; rfl
      have hB : B = 29 := by rw [hB]; rfl
      subst hA hB
      rcases hM with ⟨h0, h6, rfl⟩ | ⟨h7, h12, rfl⟩
      · have hc : j = 0 ∨ j = 1 ∨ j = 2 ∨ j = 3 ∨ j = 4 ∨ j = 5 ∨ j = 6 := by omega
        rcases hc with rfl | rfl | rfl | rfl | rfl | rfl | rfl
        · rw [show off y (0 + 7) = _ from t.o7]; clear hpq f3 f4; constructor <;> omega
        · rw [show off y (1 + 7) = _ from t.o8]; clear hpq f3 f4; constructor <;> omega
        · rw [show off y (2 + 7) = _ from t.o9]; clear hpq f3 f4; constructor <;> omega
        · rw [show off y (3 + 7) = _ from t.o10]; clear hpq f3 f4; constructor <;> omega
        · rw [show off y (4 + 7) = _ from t.o11]; clear hpq f3 f4; constructor <;> omega
        · rw [show off y (5 + 7) = _ from t.o12]; clear hpq f3 f4; constructor <;> omega
        · rw [show off y (6 + 7) = _ from t.o13, l12]; clear hpq f3 f4; constructor <;> omega
      · have hc : j = 7 ∨ j = 8 ∨ j = 9 ∨ j = 10 ∨ j = 11 ∨ j = 12 := by omega
        rcases hc with rfl | rfl | rfl | rfl | rfl | rfl
        · rw [show off y (7 - 6) = _ from t.o1]; clear hpq f3 f4; constructor <;> omega
        · rw [show off y (8 - 6) = _ from t.o2]; clear hpq f3 f4; constructor <;> omega
        · rw [show off y (9 - 6) = _ from t.o3]; clear hpq f3 f4; constructor <;> omega
        · rw [show off y (10 - 6) = _ from t.o4]; clear hpq f3 f4; constructor <;> omega
        · rw [show off y (11 - 6) = _ from t.o5]; clear hpq f3 f4; constructor <;> omega
        · rw [show off y (12 - 6) = _ from t.o6]; clear hpq f3 f4; constructor <;> omega
    · have hA : A = 30 := by rw [hA]; rfl
      have hB : B = 30 := by rw [hB]; rfl
      subst hA hB
      rcases hM with ⟨h0, h6, rfl⟩ | ⟨h7, h12, rfl⟩
      · have hc : j = 0 ∨ j = 1 ∨ j = 2 ∨ j = 3 ∨ j = 4 ∨ j = 5 ∨ j = 6 := by omega
        rcases hc with rfl | rfl | rfl | rfl | rfl | rfl | rfl
        · rw [show off y (0 + 7) = _ from t.o7]; clear hpq f3 f4; constructor <;> omega
        · rw [show off y (1 + 7) = _ from t.o8]; clear hpq f3 f4; constructor <;> omega
        · rw [show off y (2 + 7) = _ from t.o9]; clear hpq f3 f4; constructor <;> omega
        · rw [show off y (3 + 7) = _ from t.o10]; clear hpq f3 f4; constructor <;> omega
        · rw [show off y (4 + 7) = _ from t.o11]; clear hpq f3 f4; constructor <;> omega
        · rw [show off y (5 + 7) = _ from t.o12]; clear hpq f3 f4; constructor <;> omega
        · rw [show off y (6 + 7) = _ from t.o13, l12]; clear hpq f3 f4; constructor <;> omega
      · have hc : j = 7 ∨ j = 8 ∨ j = 9 ∨ j = 10 ∨ j = 11 ∨ j = 12 := by omega
        rcases hc with rfl | rfl | rfl | rfl | rfl | rfl
        · rw [show off y (7 - 6) = _ from t.o1]; clear hpq f3 f4; constructor <;> omega
        · rw [show off y (8 - 6) = _ from t.o2]; clear hpq f3 f4; constructor <;> omega
        · rw [show off y (9 - 6) = _ from t.o3]; clear hpq f3 f4; constructor <;> omega
        · rw [show off y (10 - 6) = _ from t.o4]; clear hpq f3 f4; constructor <;> omega
        · rw [show off y (11 - 6) = _ from t.o5]; clear hpq f3 f4; constructor <;> omega
        · rw [show off y (12 - 6) = _ from t.o6]; clear hpq f3 f4; constructor <;> omega
  · rcases h with ⟨_, h⟩ | ⟨hl', h⟩
    rotate_left
    · rw [hl] at hl'; cases hl'
    rw [hl, if_neg (by decide)] at hz l12
    rcases h with ⟨rfl, ⟨rfl, h⟩ | rfl⟩ | ⟨rfl, ⟨rfl, h⟩ | rfl | ⟨rfl, h⟩⟩ | ⟨rfl, rfl, h⟩
    · have hA : A = 29 := by rw [hA]; rfl
      have hB : B = 30 := by rw [hB]; rfl
      subst hA hB
      rcases hM with ⟨h0, h6, rfl⟩ | ⟨h7, h12, rfl⟩
      · have hc : j = 0 ∨ j = 1 ∨ j = 2 ∨ j = 3 ∨ j = 4 ∨ j = 5 := by omega
        rcases hc with rfl | rfl | rfl | rfl | rfl | rfl
        · rw [show off y (0 + 7) = _ from t.o7]; clear hpq f3 f4; constructor <;> omega
        · rw [show off y (1 + 7) = _ from t.o8]; clear hpq f3 f4; constructor <;> omega
        · rw [show off y (2 + 7) = _ from t.o9]; clear hpq f3 f4; constructor <;> omega
        · rw [show off y (3 + 7) = _ from t.o10]; clear hpq f3 f4; constructor <;> omega
        · rw [show off y (4 + 7) = _ from t.o11]; clear hpq f3 f4; constructor <;> omega
        · rw [show off y (5 + 7) = _ from t.o12]; clear hpq f3 f4; constructor <;> omega
      · have hc : j = 6 ∨ j = 7 ∨ j = 8 ∨ j = 9 ∨ j = 10 ∨ j = 11 := by omega
        rcases hc with rfl | rfl | rfl | rfl | rfl | rfl
        · rw [show off y (6 - 5) = _ from t.o1]; clear hpq f3 f4; constructor <;> omega
        · rw [show off y (7 - 5) = _ from t.o2]; clear hpq f3 f4; constructor <;> omega
        · rw [show off y (8 - 5) = _ from t.o3]; clear hpq f3 f4; constructor <;> omega
        · rw [show off y (9 - 5) = _ from t.o4]; clear hpq f3 f4; constructor <;> omega
        · rw [show off y (10 - 5) = _ from t.o5]; clear hpq f3 f4; constructor <;> omega
        · rw [show off y (11 - 5) = _ from t.o6]; clear hpq f3 f4; constructor <;> omega
    · have hA : A = 30 := by rw [hA]; rfl
      have hB : B = 30 := by rw [hB]; rfl
      subst hA hB
      rcases hM with ⟨h0, h6, rfl⟩ | ⟨h7, h12, rfl⟩
      · have hc : j = 0 ∨ j = 1 ∨ j = 2 ∨ j = 3 ∨ j = 4 ∨ j = 5 := by omega
        rcases hc with rfl | rfl | rfl | rfl | rfl | rfl
        · rw [show off y (0 + 7) = _ from t.o7]; clear hpq f3 f4; constructor <;> omega
        · rw [show off y (1 + 7) = _ from t.o8]; clear hpq f3 f4; constructor <;> omega
        · rw [show off y (2 + 7) = _ from t.o9]; clear hpq f3 f4; constructor <;> omega
        · rw [show off y (3 + 7) = _ from t.o10]; clear hpq f3 f4; constructor <;> omega
        · rw [show off y (4 + 7) = _ from t.o11]; clear hpq f3 f4; constructor <;> omega
        · rw [show off y (5 + 7) = _ from t.o12]; clear hpq f3 f4; constructor <;> omega
      · have hc : j = 6 ∨ j = 7 ∨ j = 8 ∨ j = 9 ∨ j = 10 ∨ j = 11 := by omega
        rcases hc with rfl | rfl | rfl | rfl | rfl | rfl
        · rw [show off y (6 - 5) = _ from t.o1]; clear hpq f3 f4; constructor <;> omega
        · rw [show off y (7 - 5) = _ from t.o2]; clear hpq f3 f4; constructor <;> omega
        · rw [show off y (8 - 5) = _ from t.o3]; clear hpq f3 f4; constructor <;> omega
        · rw [show off y (9 - 5) = _ from t.o4]; clear hpq f3 f4; constructor <;> omega
        · rw [show off y (10 - 5) = _ from t.o5]; clear hpq f3 f4; constructor <;> omega
        · rw [show off y (11 - 5) = _ from t.o6]; clear hpq f3 f4; constructor <;> omega
    · have hA : A = 29 := by rw [hA]; rfl
      have hB : B = 29 := by rw [hB]; rfl
      subst hA hB
      rcases hM with ⟨h0, h6, rfl⟩ | ⟨h7, h12, rfl⟩
      · have hc : j = 0 ∨ j = 1 ∨ j = 2 ∨ j = 3 ∨ j = 4 ∨ j = 5 := by omega
        rcases hc with rfl | rfl | rfl | rfl | rfl | rfl
        · rw [show off y (0 + 7) = _ from t.o7]; clear hpq f3 f4; constructor <;> omega
        · rw [show off y (1 + 7) = _ from t.o8]; clear hpq f3 f4; constructor <;> omega
        · rw [show off y (2 + 7) = _ from t.o9]; clear hpq f3 f4; constructor <;> omega
        · rw [show off y (3 + 7) = _ from t.o10]; clear hpq f3 f4; constructor <;> omega
        · rw [show off y (4 + 7) = _ from t.o11]; clear hpq f3 f4; constructor <;> omega
        · rw [show off y (5 + 7) = _ from t.o12]; clear hpq f3 f4; constructor <;> omega
      · have hc : j = 6 ∨ j = 7 ∨ j = 8 ∨ j = 9 ∨ j = 10 ∨ j = 11 := by omega
        rcases hc with rfl | rfl | rfl | rfl | rfl | rfl
        · rw [show off y (6 - 5) = _ from t.o1]; clear hpq f3 f4; constructor <;> omega
        · rw [show off y (7 - 5) = _ from t.o2]; clear hpq f3 f4; constructor <;> omega
        · rw [show off y (8 - 5) = _ from t.o3]; clear hpq f3 f4; constructor <;> omega
        · rw [show off y (9 - 5) = _ from t.o4]; clear hpq f3 f4; constructor <;> omega
        · rw [show off y (10 - 5) = _ from t.o5]; clear hpq f3 f4; constructor <;> omega
        · rw [show off y (11 - 5) = _ from t.o6]; clear hpq f3 f4; constructor <;> omega
    · have hA : A = 29 := by rw [hA]; rfl
      have hB : B = 30 := by rw [hB]; rfl
      subst hA hB
      rcases hM with ⟨h0, h6, rfl⟩ | ⟨h7, h12, rfl⟩
      · have hc : j = 0 ∨ j = 1 ∨ j = 2 ∨ j = 3 ∨ j = 4 ∨ j = 5 := by omega
        rcases hc with rfl | rfl | rfl | rfl | rfl | rfl
        · rw [show off y (0 + 7) = _ from t.o7]; clear hpq f3 f4; constructor <;> omega
        · rw [show off y (1 + 7) = _ from t.o8]; clear hpq f3 f4; constructor <;> omega
        · rw [show off y (2 + 7) = _ from t.o9]; clear hpq f3 f4; constructor <;> omega
        · rw [show off y (3 + 7) = _ from t.o10]; clear hpq f3 f4; constructor <;> omega
        · rw [show off y (4 + 7) = _ from t.o11]; clear hpq f3 f4; constructor <;> omega
        · rw [show off y (5 + 7) = _ from t.o12]; clear hpq f3 f4; constructor <;> omega
      · have hc : j = 6 ∨ j = 7 ∨ j = 8 ∨ j = 9 ∨ j = 10 ∨ j = 11 := by omega
        rcases hc with rfl | rfl | rfl | rfl | rfl | rfl
        · rw [show off y (6 - 5) = _ from t.o1]; clear hpq f3 f4; constructor <;> omega
        · rw [show off y (7 - 5) = _ from t.o2]; clear hpq f3 f4; constructor <;> omega
        · rw [show off y (8 - 5) = _ from t.o3]; clear hpq f3 f4; constructor <;> omega
        · rw [show off y (9 - 5) = _ from t.o4]; clear hpq f3 f4; constructor <;> omega
        · rw [show off y (10 - 5) = _ from t.o5]; clear hpq f3 f4; constructor <;> omega
        · rw [show off y (11 - 5) = _ from t.o6]; clear hpq f3 f4; constructor <;> omega
    · have hA : A = 30 := by rw [hA]; rfl
      have hB : B = 30 := by rw [hB]; rfl
      subst hA hB
      rcases hM with ⟨h0, h6, rfl⟩ | ⟨h7, h12, rfl⟩
      · have hc : j = 0 ∨ j = 1 ∨ j = 2 ∨ j = 3 ∨ j = 4 ∨ j = 5 := by omega
        rcases hc with rfl | rfl | rfl | rfl | rfl | rfl
        · rw [show off y (0 + 7) = _ from t.o7]; clear hpq f3 f4; constructor <;> omega
        · rw [show off y (1 + 7) = _ from t.o8]; clear hpq f3 f4; constructor <;> omega
        · rw [show off y (2 + 7) = _ from t.o9]; clear hpq f3 f4; constructor <;> omega
        · rw [show off y (3 + 7) = _ from t.o10]; constructor <;> omega
        · rw [show off y (4 + 7) = _ from t.o11]; clear hpq f3 f4; constructor <;> omega
        · rw [show off y (5 + 7) = _ from t.o12]; clear hpq f3 f4; constructor <;> omega
      · have hc : j = 6 ∨ j = 7 ∨ j = 8 ∨ j = 9 ∨ j = 10 ∨ j = 11 := by omega
        rcases hc with rfl | rfl | rfl | rfl | rfl | rfl
        · rw [show off y (6 - 5) = _ from t.o1]; clear hpq f3 f4; constructor <;> omega
        · rw [show off y (7 - 5) = _ from t.o2]; clear hpq f3 f4; constructor <;> omega
        · rw [show off y (8 - 5) = _ from t.o3]; clear hpq f3 f4; constructor <;> omega
        · rw [show off y (9 - 5) = _ from t.o4]; clear hpq f3 f4; constructor <;> omega
        · rw [show off y (10 - 5) = _ from t.o5]; clear hpq f3 f4; constructor <;> omega
        · rw [show off y (11 - 5) = _ from t.o6]; clear hpq f3 f4; constructor <;> omega
    · have hA : A = 29 := by rw [hA]; rfl
      have hB : B = 30 := by rw [hB]; rfl
      subst hA hB
      rcases hM with ⟨h0, h6, rfl⟩ | ⟨h7, h12, rfl⟩
      · have hc : j = 0 ∨ j = 1 ∨ j = 2 ∨ j = 3 ∨ j = 4 ∨ j = 5 := by omega
        rcases hc with rfl | rfl | rfl | rfl | rfl | rfl
        · rw [show off y (0 + 7) = _ from t.o7]; clear hpq f3 f4; constructor <;> omega
        · rw [show off y (1 + 7) = _ from t.o8]; clear hpq f3 f4; constructor <;> omega
        · rw [show off y (2 + 7) = _ from t.o9]; clear hpq f3 f4; constructor <;> omega
        · rw [show off y (3 + 7) = _ from t.o10]; clear hpq f3 f4; constructor <;> omega
        · rw [show off y (4 + 7) = _ from t.o11]; clear hpq f3 f4; constructor <;> omega
        · rw [show off y (5 + 7) = _ from t.o12]; clear hpq f3 f4; constructor <;> omega
      · have hc : j = 6 ∨ j = 7 ∨ j = 8 ∨ j = 9 ∨ j = 10 ∨ j = 11 := by omega
        rcases hc with rfl | rfl | rfl | rfl | rfl | rfl
        · rw [show off y (6 - 5) = _ from t.o1]; clear hpq f3 f4; constructor <;> omega
        · rw [show off y (7 - 5) = _ from t.o2]; clear hpq f3 f4; constructor <;> omega
        · rw [show off y (8 - 5) = _ from t.o3]; clear hpq f3 f4; constructor <;> omega
        · rw [show off y (9 - 5) = _ from t.o4]; clear hpq f3 f4; constructor <;> omega
        · rw [show off y (10 - 5) = _ from t.o5]; clear hpq f3 f4; constructor <;> omega
        · rw [show off y (11 - 5) = _ from t.o6]; clear hpq f3 f4; constructor <;> omega
end Mine
end
section
namespace Mine
/-! the three rare months -/
theorem w_a {n : Int} (h : n % 8527680 = 1625189) : (12084 + 765433 * (n - 4)) % 25920 = 2509 ∧ (12084 + 765433 * (n + 9)) % 25920 = 25778 ∧ (12084 + 765433 * (n - 4)) / 25920 % 7 = 0 ∧ (12084 + 765433 * (n + 9)) / 25920 % 7 = 5 ∧ eOf n = -24264 := by
  have e : n = 8527680 * (n / 8527680) + 1625189 := by omega
  generalize n / 8527680 = k at e
  clear h
  subst e
  have e1 : (12084 + 765433 * (8527680 * k + 1625189 - 4)) / 25920 = 251827457 * k + 47992679 := by omega
  have e2 : (12084 + 765433 * (8527680 * k + 1625189 + 9)) / 25920 = 251827457 * k + 47993062 := by omega
  rw [e1, e2]
  refine ⟨by omega, by omega, by omega, by omega, ?_⟩
  unfold eOf
  have e3 : (8527680 * k + 1625189 - 54196) / 12 = 710640 * k + 130916 := by omega
  have e4 : (8527680 * k + 1625189 - 54196) % 12 = 1 := by omega
  rw [e3, e4]
  omega
theorem w_b {n : Int} (h : n % 8527680 = 4061669) : (12084 + 765433 * (n - 4)) % 25920 = 2509 ∧ (12084 + 765433 * (n + 9)) % 25920 = 25778 ∧ (12084 + 765433 * (n - 4)) / 25920 % 7 = 5 ∧ (12084 + 765433 * (n + 9)) / 25920 % 7 = 3 ∧ eOf n = -24264 := by
  have e : n = 8527680 * (n / 8527680) + 4061669 := by omega
  generalize n / 8527680 = k at e
  clear h
  subst e
  have e1 : (12084 + 765433 * (8527680 * k + 4061669 - 4)) / 25920 = 251827457 * k + 119943381 := by omega
  have e2 : (12084 + 765433 * (8527680 * k + 4061669 + 9)) / 25920 = 251827457 * k + 119943764 := by omega
  rw [e1, e2]
  refine ⟨by omega, by omega, by omega, by omega, ?_⟩
  unfold eOf
  have e3 : (8527680 * k + 4061669 - 54196) / 12 = 710640 * k + 333956 := by omega
  have e4 : (8527680 * k + 4061669 - 54196) % 12 = 1 := by omega
  rw [e3, e4]
  omega
theorem w_c {n : Int} (h : n % 8527680 = 4084946) : (12084 + 765433 * (n - 3)) % 25920 = 6923 ∧ (12084 + 765433 * (n + 9)) % 25920 = 16439 ∧ (12084 + 765433 * (n - 3)) / 25920 % 7 = 4 ∧ (12084 + 765433 * (n + 9)) / 25920 % 7 = 1 ∧ eOf n = 20880 := by
  have e : n = 8527680 * (n / 8527680) + 4084946 := by omega
  generalize n / 8527680 = k at e
  clear h
  subst e
  have e1 : (12084 + 765433 * (8527680 * k + 4084946 - 3)) / 25920 = 251827457 * k + 120630794 := by omega
  have e2 : (12084 + 765433 * (8527680 * k + 4084946 + 9)) / 25920 = 251827457 * k + 120631148 := by omega
  rw [e1, e2]
  refine ⟨by omega, by omega, by omega, by omega, ?_⟩
  unfold eOf
  have e3 : (8527680 * k + 4084946 - 54196) / 12 = 710640 * k + 335895 := by omega
  have e4 : (8527680 * k + 4084946 - 54196) % 12 = 10 := by omega
  rw [e3, e4]
  omega
set_option maxHeartbeats 2000000 in
theorem rare_low {n y j M A B Z : Int} (t : Tab y A B Z) (hy : y = 19 * (n / 235) + (19 * (n % 235) + 17) / 235 + 1) (hn : n = months y + j)
    (hM : leapB y = true ∧ (0 ≤ j ∧ j ≤ 6 ∧ M = j + 7 ∨ 7 ≤ j ∧ j ≤ 12 ∧ M = j - 6) ∨ leapB y = false ∧ (0 ≤ j ∧ j ≤ 5 ∧ M = j + 7 ∨ 6 ≤ j ∧ j ≤ 11 ∧ M = j - 5))
    (hr : n % 8527680 = 1625189 ∨ n % 8527680 = 4061669) :
    ∀ dl, T y = pq y / 25920 + dl → -37688 - 765433 * j + 25920 * (dl + off y M) - pq y % 25920 + eOf n = -93553 := by
  intro dl hdl
  have h1 : n % 235 = 164 := by omega
  rw [h1] at hy
  have hy' : y = 19 * (n / 235) + 14 := by omega
  have l1 : leapB y = true := leap_of (by rw [hy']; omega)
  have l0 : leapB (y - 1) = false := leap_no (by rw [hy']; omega)
  have l2 : leapB (y + 1) = false := leap_no (by rw [hy']; omega)
  have hm : months y = 235 * (n / 235) + 160 := by unfold months; rw [hy']; omega
  have hj : j = 4 := by omega
  subst hj
  have hp : pq y = 12084 + 765433 * (n - 4) := by unfold pq; rw [hm]; omega
  have hp2 : pq (y + 1) = 12084 + 765433 * (n + 9) := by rw [pq_t l1, hp]; omega
  have hw : (pq y % 25920 = 2509 ∧ pq (y + 1) % 25920 = 25778 ∧ eOf n = -24264) ∧ (pq y / 25920 % 7 = 0 ∧ pq (y + 1) / 25920 % 7 = 5 ∨ pq y / 25920 % 7 = 5 ∧ pq (y + 1) / 25920 % 7 = 3) := by
    rw [hp, hp2]
    rcases hr with hr | hr
    · have := w_a hr
      exact ⟨⟨this.1, this.2.1, this.2.2.2.2⟩, .inl ⟨this.2.2.1, this.2.2.2.1⟩⟩
    · have := w_b hr
      exact ⟨⟨this.1, this.2.1, this.2.2.2.2⟩, .inr ⟨this.2.2.1, this.2.2.2.1⟩⟩
  obtain ⟨⟨p1, p2, he⟩, w1⟩ := hw
  have t1 := T_eq y
  have t2 := T_eq (y + 1)
  rw [Int.add_sub_cancel, l1, l2, p2] at t2
  rw [l1, l0, p1] at t1
  have d1 : del (pq y / 25920 % 7) 2509 true false = 0 := by rcases w1 with ⟨e, _⟩ | ⟨e, _⟩ <;> rw [e] <;> decide
  have d2 : del (pq (y + 1) / 25920 % 7) 25778 false true = 0 := by rcases w1 with ⟨_, e⟩ | ⟨_, e⟩ <;> rw [e] <;> decide
  rw [d1] at t1
  rw [d2] at t2
  have hs : yd y = 383 := by unfold yd; omega
  have hA := t.hA
  have hB := t.hB
  rw [hs] at hA hB
  have hA : A = 29 := hA
  have hB : B = 29 := hB
  have hM' : M = 11 := by
    rcases hM with ⟨_, h⟩ | ⟨h, _⟩
    · omega
    · rw [l1] at h; cases h
  rw [hM', t.o11, p1, hA, hB]
  rw [he]
  omega
set_option maxHeartbeats 2000000 in
theorem rare_high {n y j M A B Z : Int} (t : Tab y A B Z) (hy : y = 19 * (n / 235) + (19 * (n % 235) + 17) / 235 + 1) (hn : n = months y + j)
    (hM : leapB y = true ∧ (0 ≤ j ∧ j ≤ 6 ∧ M = j + 7 ∨ 7 ≤ j ∧ j ≤ 12 ∧ M = j - 6) ∨ leapB y = false ∧ (0 ≤ j ∧ j ≤ 5 ∧ M = j + 7 ∨ 6 ≤ j ∧ j ≤ 11 ∧ M = j - 5))
    (hr : n % 8527680 = 4084946) :
    ∀ dl, T y = pq y / 25920 + dl → -37688 - 765433 * j + 25920 * (dl + off y M) - pq y % 25920 + eOf n = 38690 := by
  intro dl hdl
  have h1 : n % 235 = 176 := by omega
  rw [h1] at hy
  have hy' : y = 19 * (n / 235) + 15 := by omega
  have l1 : leapB y = false := leap_no (by rw [hy']; omega)
  have l0 : leapB (y - 1) = true := leap_of (by rw [hy']; omega)
  have l2 : leapB (y + 1) = false := leap_no (by rw [hy']; omega)
  have hm : months y = 235 * (n / 235) + 173 := by unfold months; rw [hy']; omega
  have hj : j = 3 := by omega
  subst hj
  have hp : pq y = 12084 + 765433 * (n - 3) := by unfold pq; rw [hm]; omega
  have hp2 : pq (y + 1) = 12084 + 765433 * (n + 9) := by rw [pq_f l1, hp]; omega
  have hw := w_c hr
  rw [← hp, ← hp2] at hw
  obtain ⟨p1, p2, w1, w2, he⟩ := hw
  have t1 := T_eq y
  have t2 := T_eq (y + 1)
  rw [Int.add_sub_cancel, l1, l2, p2, w2] at t2
  rw [l1, l0, p1, w1] at t1
  have d1 : del 4 6923 false true = 1 := by decide
  have d2 : del 1 16439 false false = 2 := by decide
  rw [d1] at t1
  rw [d2] at t2
  have hs : yd y = 355 := by unfold yd; omega
  have hA := t.hA
  have hB := t.hB
  rw [hs] at hA hB
  have hA : A = 30 := hA
  have hB : B = 30 := hB
  have hM' : M = 10 := by
    rcases hM with ⟨h, _⟩ | ⟨_, h⟩
    · rw [l1] at h; cases h
    · omega
  rw [hM', t.o10, p1, hA, hB]
  rw [he]
  omega
end Mine
end
section
namespace Mine
theorem szOf_eq (n : Int) : szOf n = yd (yrOf n + 1) := by
  have h1 := spring_T (yrOf n)
  have h2 := spring_T (yrOf n + 1)
  unfold szOf yd
  omega
theorem left_facts {n : Int} (h : 0 ≤ n ∧ n < 1000000000) : n = months (yrOf n + 1) + leftOf n ∧ 0 ≤ leftOf n ∧ n < months (yrOf n + 2) ∧ 0 ≤ yrOf n ∧ yrOf n + 1 ≤ 82000000 := by
  unfold leftOf yrOf months bef
  have hb : 0 ≤ n % 235 ∧ n % 235 < 235 := by omega
  have hq : n = 235 * (n / 235) + n % 235 := by omega
  generalize n % 235 = r at *
  generalize n / 235 = q at *
  have e1 : (235 * (19 * q + (19 * r + 17) / 235 + 1) - 234) / 19 = 235 * q + (235 * ((19 * r + 17) / 235) + 1) / 19 := by omega
  have e2 : (235 * (19 * q + (19 * r + 17) / 235 + 2) - 234) / 19 = 235 * q + (235 * ((19 * r + 17) / 235) + 236) / 19 := by omega
  rw [e1, e2]
  clear e1 e2
  refine ⟨by omega, by omega, by omega, by omega, by omega⟩
theorem left_end {n : Int} (h : 0 ≤ n ∧ n < 1000000000) : leftOf n < if leapB (yrOf n + 1) = true then 13 else 12 := by
  obtain ⟨h1, h2, h3, _⟩ := left_facts h
  have e : yrOf n + 2 = yrOf n + 1 + 1 := by omega
  rw [e] at h3
  cases hl : leapB (yrOf n + 1) with
  | true => rw [if_pos rfl]; have := mon_t hl; omega
  | false => rw [if_neg (by decide)]; have := mon_f hl; omega
theorem month_pre {n : Int} (h : 0 ≤ n ∧ n < 1000000000) : 0 ≤ n % 235 - bef ((19 * (n % 235) + 17) / 235) ∧ n % 235 - bef ((19 * (n % 235) + 17) / 235) < (monthsOf (szOf n)).length := by
  have h1 := left_facts h
  have h2 := left_end h
  obtain ⟨A, B, Z, t⟩ := tab (yrOf n + 1)
  obtain ⟨_, _, _, _, _, h3⟩ := tab_sz t
  rw [monthsOf_length, szOf_eq]
  refine ⟨h1.2.1, ?_⟩
  show leftOf n < _
  by_cases e : 360 < yd (yrOf n + 1)
  · rw [if_pos e]; rw [if_pos (h3.mpr e)] at h2; exact h2
  · rw [if_neg e]; rw [if_neg (fun x => e (h3.mp x))] at h2; exact h2
theorem heb_ok {y M A B Z p : Int} (t : Tab y A B Z) (hy : 1 ≤ y ∧ y ≤ 82000000) (hM : (1 ≤ M ∧ M ≤ 13) ∧ (M = 13 → leapB y = true)) (hp : 0 ≤ p ∧ p < ml y M) : HebOk (tj y M (p + 1)) y M (p + 1) := by
  have hm := ml_bound y M
  have he := off_end t hM
  have o1 := t.o1
  obtain ⟨hs, _⟩ := tab_sz t
  have hb := tj_bound (m := M) (d := p + 1) hy (by omega)
  have hN : tj y M (p + 1) = 347996 + T y + off y M + (p + 1) := rfl
  have hyd : yd y = T (y + 1) - T y := rfl
  obtain ⟨dl, sz, pp, k, hk⟩ := kinds y
  obtain ⟨dl', sz', pp', k', hk'⟩ := kinds (y + 1)
  have kT := k.T
  have kT' := k'.T
  have hdl : 0 ≤ dl ∧ dl ≤ 2 := by rcases hk with ⟨_, h | h | h⟩ | ⟨_, h | h⟩ <;> omega
  have hdl' : 0 ≤ dl' ∧ dl' ≤ 2 := by rcases hk' with ⟨_, h | h | h⟩ | ⟨_, h | h⟩ <;> omega
  have pos : ∀ i, 300 ≤ yd i := by
    intro i
    obtain ⟨d3, s3, p3, k3, h3⟩ := kinds i
    have := k3.s
    rcases h3 with ⟨_, h | h | h⟩ | ⟨_, h | h⟩ <;> omega
  have q1 := pos (y - 1)
  have q2 := pos (y - 2)
  have y1 : yd (y - 1) = T y - T (y - 1) := by unfold yd; rw [Int.sub_add_cancel]
  have y2 : yd (y - 2) = T (y - 1) - T (y - 2) := by unfold yd; rw [show y - 2 + 1 = y - 1 by omega]
  refine ⟨hy, hM.1, by omega, rfl, by omega, ?_, ?_, ?_, ?_⟩
  · have a1 : 235 * y - 252 ≤ 19 * months y := by unfold months; omega
    have a2 : 19 * months (y + 1) ≤ 235 * y + 1 := by unfold months; omega
    have b1 : pq y = 12084 + 765433 * months y := rfl
    have b2 : pq (y + 1) = 12084 + 765433 * months (y + 1) := rfl
    rw [hN]
    constructor <;> omega
  · intro i h1 h2
    have hi : i = y - 2 ∨ i = y - 1 ∨ i = y ∨ i = y + 1 := by omega
    rw [hN]
    rcases hi with rfl | rfl | rfl | rfl <;> omega
  · have e1 : tj y 1 1 = 347996 + T y + off y 1 + 1 := rfl
    rw [hN, e1, o1]
    by_cases h7 : 7 ≤ M
    · have := he.2.2.1 h7; omega
    · have := he.2.2.2 (by omega); omega
  · intro i h1 h2
    have e1 : tj y i (ml y i) = 347996 + T y + off y i + ml y i := rfl
    rw [hN, e1]
    by_cases hi : i < M
    · have hf : 7 ≤ i ∧ i < M ∧ M ≤ 13 ∨ 1 ≤ i ∧ i < M ∧ M ≤ 6 := by unfold first at h1; split at h1 <;> omega
      have := off_mono t hf
      omega
    · have : i = M := by omega
      subst this
      omega
structure MonthOk (n y m num len : Int) : Prop where
  yr : 1 ≤ y ∧ y ≤ 82000000
  mon : 1 ≤ m ∧ m ≤ 13
  ln : 29 ≤ len ∧ len ≤ 30
  nm : 300001 ≤ num ∧ num ≤ 30990000000
  one : ∀ p cy cm cd, 0 ≤ p → p < len → IsDate (tj y m (p + 1)) cy cm cd → OneOk n (num + p) y m (p + 1) cy cm cd
theorem month_ok {n y m num len : Int} (h : 0 ≤ n ∧ n < 1000000000) (hy : y = 19 * (n / 235) + (19 * (n % 235) + 17) / 235 + 1) (hm : MonthIs n m num len) : MonthOk n y m num len := by
  have hy1 : y = yrOf n + 1 := hy
  obtain ⟨f1, f2, f3, f4, f5⟩ := left_facts h
  have f6 := left_end h
  obtain ⟨m1, m2, m3⟩ := hm
  rw [szOf_eq] at m1 m2 m3
  rw [← hy1] at m1 m2 m3 f1 f5 f6
  obtain ⟨A, B, Z, t⟩ := tab y
  obtain ⟨M, g1, g2, g3, g4, g5⟩ := at_month t ⟨f2, f6⟩
  rw [g2] at m1
  rw [g3] at m2
  rw [g4] at m3
  subst m1 m2
  have hsp := spring_T (yrOf n)
  rw [← hy1] at hsp
  rw [hsp] at m3
  have hml := ml_bound y m
  have hyr : 1 ≤ y ∧ y ≤ 82000000 := by omega
  have hTb := T_bound2 hyr
  have hob := off_bound y m
  refine ⟨hyr, g1, hml, by omega, ?_⟩
  intro p cy cm cd hp0 hp1 hd
  have hN : tj y m (p + 1) = num + p - 1 := by
    have : tj y m (p + 1) = 347996 + T y + off y m + (p + 1) := rfl
    omega
  have h13 : m = 13 → leapB y = true := by
    intro e
    rcases g5 with ⟨hl, _⟩ | ⟨_, g5⟩
    · exact hl
    · omega
  have heb := heb_ok t hyr ⟨g1, h13⟩ ⟨hp0, hp1⟩
  rw [hN] at heb hd
  have g5' : leapB y = true ∧ (0 ≤ leftOf n ∧ leftOf n ≤ 6 ∧ m = leftOf n + 7 ∨ 7 ≤ leftOf n ∧ leftOf n ≤ 12 ∧ m = leftOf n - 6) ∨ leapB y = false ∧ (0 ≤ leftOf n ∧ leftOf n ≤ 5 ∧ m = leftOf n + 7 ∨ 6 ≤ leftOf n ∧ leftOf n ≤ 11 ∧ m = leftOf n - 5) := by
    rcases g5 with ⟨hl, g | g⟩ | ⟨hl, g | g⟩
    · exact .inl ⟨hl, .inl ⟨f2, g.1, g.2⟩⟩
    · exact .inl ⟨hl, .inr g⟩
    · exact .inr ⟨hl, .inl ⟨f2, g.1, g.2⟩⟩
    · exact .inr ⟨hl, .inr g⟩
  obtain ⟨dl, sz, pp, k, _⟩ := kinds y
  have hT := k.T
  have hpe := parts_eq (o := off y m) (p := p) f1 hT
  rw [← m3] at hpe
  have hpb := parts_bound t f1 g5' dl hT
  have ht1 := there_eq n
  obtain ⟨ef1, ef2, _⟩ := e_facts n
  refine ⟨h, by omega, hd, heb, by omega, by rw [hpe]; exact hpb.1, by rw [hpe]; exact hpb.2, fun hr => by rw [hpe]; exact rare_low t hy f1 g5' hr dl hT, fun hr => by rw [hpe]; exact rare_high t hy f1 g5' hr dl hT⟩
end Mine
end
section
open PySem PySem.W PyProof.Rows
set_option maxRecDepth 100000
namespace Mine
theorem resetMW1 : True := by
  w_top off
  k_with_none
  trivial
theorem fillHd : (fun (_ : OpenLaw) (_ : Params → Frag) => True) PySem.Challenge.rw_ad5021_01 hd.heap_39 := by
  k_fill
  trivial
local macro_rules | `(tactic| ktr_rel) => `(tactic| first | (with_reducible exact rfl) | exact lit_g | exact lit_h | exact lit_i | exact lit_half | exact lit_295 | exact lit_num | exact lit_den)
local macro_rules | `(tactic| tb_start) => `(tactic| first | decide | omega)
local macro_rules | `(tactic| walk_at "binaryOp Mod int int") => `(tactic| (k_here; (with_reducible refine' m_mod ?b1 ?_); (case b1 => tb_start)))
local macro_rules | `(tactic| walk_at "binaryOp FloorDiv int int") => `(tactic| (k_here; (with_reducible refine' m_fdiv ?b1 ?b2 ?_); (case b1 => tb_start); (case b2 => tb_start)))
local macro_rules | `(tactic| walk_at "binaryOp Add float int") => `(tactic| (k_here; (with_reducible refine' m_add_fi ?hx ?b1 ?b2 ?b3 ?_); (case hx => ktr_rel); (case b1 => tb_start); (case b2 => tb_start); (case b3 => tb_start)))
local macro_rules | `(tactic| walk_at "inplaceOp Add float int") => `(tactic| (k_here; (with_reducible refine' m_iadd_fi ?hA ?hx ?b1 ?b2 ?b3 ?_); (case hA => k_dflt (exact rfl)); (case hx => ktr_rel); (case b1 => tb_start); (case b2 => tb_start); (case b3 => tb_start)))
local macro_rules | `(tactic| walk_at "binaryOp Add int float") => `(tactic| (k_here; (with_reducible refine' m_add_if ?hx ?b1 ?b2 ?b3 ?_); (case hx => ktr_rel); (case b1 => tb_start); (case b2 => tb_start); (case b3 => tb_start)))
local macro_rules | `(tactic| walk_at "binaryOp Sub float int") => `(tactic| (k_here; (with_reducible refine' m_sub_fi ?hx ?b1 ?b2 ?b3 ?_); (case hx => ktr_rel); (case b1 => tb_start); (case b2 => tb_start); (case b3 => tb_start)))
local macro_rules | `(tactic| walk_at "binaryOp Add float float") => `(tactic| (k_here; (with_reducible refine' m_add_ff ?hx ?hy ?b1 ?b2 ?b3 ?_); (case hx => ktr_rel); (case hy => ktr_rel); (case b1 => tb_start); (case b2 => tb_start); (case b3 => tb_start)))
local macro_rules | `(tactic| walk_at "binaryOp Sub float float") => `(tactic| (k_here; (with_reducible refine' m_sub_ff ?hx ?hy ?b1 ?b2 ?b3 ?_); (case hx => ktr_rel); (case hy => ktr_rel); (case b1 => tb_start); (case b2 => tb_start); (case b3 => tb_start)))
local macro_rules | `(tactic| walk_at "binaryOp Div int int") => `(tactic| (k_here; (with_reducible refine' m_div_ii ?hA ?b1 ?b2 ?_); (case hA => k_dflt (exact rfl)); (case b1 => tb_start); (case b2 => tb_start); intro z hz))
local macro_rules | `(tactic| walk_at "binaryOp Div float int") => `(tactic| (k_here; (with_reducible refine' m_div_fi ?hA ?hx ?b1 ?b2 ?b3 ?_); (case hA => k_dflt (exact rfl)); (case hx => ktr_rel); (case b1 => tb_start); (case b2 => tb_start); (case b3 => tb_start); intro z hz))
local macro_rules | `(tactic| walk_at "binaryOp Div float float") => `(tactic| (k_here; (with_reducible refine' m_div_ff ?hA ?hx ?hy ?b1 ?b2 ?b3 ?_); (case hA => k_dflt (exact rfl)); (case hx => ktr_rel); (case hy => ktr_rel); (case b1 => tb_start); (case b2 => tb_start); (case b3 => tb_start); intro z hz))
local macro_rules | `(tactic| walk_at "binaryOp Mod float int") => `(tactic| (k_here; (with_reducible refine' m_mod_fi ?hA ?hx ?b1 ?b2 ?b3 ?_); (case hA => k_dflt (exact rfl)); (case hx => ktr_rel); (case b1 => tb_start); (case b2 => tb_start); (case b3 => tb_start)))
local macro_rules | `(tactic| walk_at "call builtin:math.floor") => `(tactic| (k_here; (with_reducible show wpAny _ _ (call _ [Value.float _ _]) _ _ _); first
  | ((with_reducible refine' m_floor_Q ?hA ?hq ?b1 ?_); (case hA => k_dflt (exact rfl)); (case hq => with_reducible assumption); (case b1 => tb_start))
  | ((with_reducible refine' m_floor ?hA ?hx ?b1 ?_); (case hA => k_dflt (exact rfl)); (case hx => ktr_rel); (case b1 => tb_start))))
local macro_rules | `(tactic| walk_at "call builtin:math.ceil") => `(tactic| (k_here; (with_reducible show wpAny _ _ (call _ [Value.float _ _]) _ _ _); first
  | ((with_reducible refine' m_ceil_Q ?hA ?hq ?b1 ?_); (case hA => k_dflt (exact rfl)); (case hq => with_reducible assumption); (case b1 => tb_start))
  | ((with_reducible refine' m_ceil ?hA ?hx ?b1 ?_); (case hA => k_dflt (exact rfl)); (case hx => ktr_rel); (case b1 => tb_start))))
local macro_rules | `(tactic| walk_at "call type:int") => `(tactic| (k_here; (with_reducible show wpAny _ _ (call _ [Value.float _ _]) _ _ _); (with_reducible refine' m_int ?hA ?hx ?b1 ?b2 ?_); (case hA => k_dflt (exact rfl)); (case hx => ktr_rel); (case b1 => tb_start); (case b2 => tb_start)))
local macro_rules | `(tactic| walk_at "compareOp Gt float float") => `(tactic| (k_here; (with_reducible refine' m_gt_ff ?hx ?hy ?b1 ?b2 ?_); (case hx => ktr_rel); (case hy => ktr_rel); (case b1 => tb_start); (case b2 => tb_start)))
local macro_rules | `(tactic| walk_at "compareOp Lt float float") => `(tactic| (k_here; (with_reducible refine' m_lt_ff ?hx ?hy ?b1 ?b2 ?_); (case hx => ktr_rel); (case hy => ktr_rel); (case b1 => tb_start); (case b2 => tb_start)))
local macro_rules | `(tactic| walk_at "compareOp GtE float float") => `(tactic| (k_here; (with_reducible refine' m_ge_ff ?hx ?hy ?b1 ?b2 ?_); (case hx => ktr_rel); (case hy => ktr_rel); (case b1 => tb_start); (case b2 => tb_start)))
local macro_rules | `(tactic| walk_at "compareOp Lt float int") => `(tactic| (k_here; (with_reducible refine' m_lt_fi ?hx ?b1 ?_); (case hx => ktr_rel); (case b1 => tb_start)))
local macro_rules | `(tactic| walk_at "compareOp Eq float int") => `(tactic| (k_here; (with_reducible refine' m_eq_fi ?hx ?b1 ?_); (case hx => ktr_rel); (case b1 => tb_start)))
local macro_rules | `(tactic| walk_at "compareOp NotEq float int") => `(tactic| (k_here; (with_reducible refine' m_ne_fi ?hx ?b1 ?_); (case hx => ktr_rel); (case b1 => tb_start)))
local macro_rules | `(tactic| walk_at "UnrEnd") => `(tactic| (refine' UnrEnd.intro ?F ?N ?nn ?sub ?off ?_; (case sub => exact fun _ hp => hp); (case F => k_asm); (case N => k_asm); (case off => first | exact off_of (by assumption) | exact offI_of (by assumption)); (try ((refine' ⟨rfl, endF ?e1 ?e2, ?e3⟩); (case e1 => with_unfolding_all rfl); (case e2 => (simp only [accS]; omega)); (case e3 => (intro z h1 h2; simp only [h1, h2, if_false]))))))
local macro_rules | `(tactic| walk_at "binaryOp Mult float int") => `(tactic| (k_here; first
  | ((with_reducible refine' m_mul_fi ?hx ?b1 ?b2 ?b3 ?b4 ?_); (case hx => ktr_rel); (case b1 => tb_start); (case b2 => tb_start); (case b3 => tb_start); (case b4 => tb_start))
  | ((with_reducible refine' m_mul_fi' ?hx ?b1 ?b2 ?b3 ?b4 ?b5 ?_); (case hx => ktr_rel); (case b1 => tb_start); (case b2 => tb_start); (case b3 => tb_start); (case b4 => tb_start); (case b5 => tb_start))))
local macro_rules | `(tactic| walk_at "binaryOp Mult int float") => `(tactic| (k_here; ((with_reducible refine' m_mul_if' ?hx ?b1 ?b2 ?b3 ?b4 ?_); (case hx => ktr_rel); (case b1 => tb_start); (case b2 => tb_start); (case b3 => tb_start); (case b4 => tb_start))))
local macro_rules | `(tactic| walk_at "binaryOp Mult float float") => `(tactic| (k_here; ((with_reducible refine' m_mul_ff ?hx ?hy ?b1 ?b2 ?b3 ?b4 ?_); (case hx => ktr_rel); (case hy => exact lit_num2); (case b1 => tb_start); (case b2 => tb_start); (case b3 => tb_start); (case b4 => tb_start))))
local macro_rules | `(tactic| walk_at "call builtin:divmod") => `(tactic| (k_here; (with_reducible show wpAny _ _ (call (Value.builtin _) [Value.int _ _, Value.int _ _]) _ _ _); (rename Fr _ _ _ _ => dF); (rename News _ _ _ _ => dN); (refine' m_divmod dF dN ?b1 ?b2 ?_; (case b1 => tb_start); (case b2 => tb_start)); intro _ _ _))
set_option maxHeartbeats 8000000
theorem c_leap (y : Int) (t : Tok) : Cl 78 1 (True) [.int y t] (fun t => .bool (leapB y)) := by
  unfold Cl
  intros
  rename_i hpre _ _ hret
  dsimp only at hret
  refine wpAny_call ?_
  k_dflt cell_enter
  k_steps
  all_goals (refine retB hret (by k_asm) (by k_asm) ?_; rfl)
local macro_rules | `(tactic| walk_at "call ref") => `(tactic| (k_here; (with_reducible show wpAny _ _ (call (Value.ref 78) _) _ _ _); k_dflt (refine' c_leap _ _ ?k1 ?k2 ?k3 ?k4 ?k5 ?kK ?kp ?kd ?ku ?_; (case k1 => k_asm); (case k2 => k_asm); (case k3 => k_asm); (case k4 => k_asm); (case k5 => k_asm); (case kK => first | exact rfl | assumption); (case kp => first | (with_reducible exact True.intro) | omega | (with_reducible assumption)); (case kd => ktr_room); (case ku => ktr_units); intro t9 h9 tk9 F9 N9; (try dsimp only); (try k_fold))))
theorem c_ymonths (y : Int) (t : Tok) : Cl 85 2 (True) [.int y t] (fun t => .int (if leapB y = true then 13 else 12) t) := by
  unfold Cl
  intros
  rename_i hpre _ _ hret
  dsimp only at hret
  refine wpAny_call ?_
  k_dflt cell_enter
  k_steps
  · refine retI hret (by k_asm) (by k_asm) ?_
    rw [if_pos (by assumption)]
  · refine retI hret (by k_asm) (by k_asm) ?_
    rw [if_neg (by first | assumption | (simp only [Bool.not_eq_true]; assumption))]
local macro_rules | `(tactic| walk_at "call ref") => `(tactic| (k_here; (with_reducible show wpAny _ _ (call (Value.ref 85) _) _ _ _); k_dflt (refine' c_ymonths _ _ ?k1 ?k2 ?k3 ?k4 ?k5 ?kK ?kp ?kd ?ku ?_; (case k1 => k_asm); (case k2 => k_asm); (case k3 => k_asm); (case k4 => k_asm); (case k5 => k_asm); (case kK => first | exact rfl | assumption); (case kp => first | (with_reducible exact True.intro) | omega | (with_reducible assumption)); (case kd => ktr_room); (case ku => ktr_units); intro t9 h9 tk9 F9 N9; (try dsimp only); (try k_fold))))
theorem c_delay1 (y : Int) (t : Tok) : Cl 92 1 (-10 ≤ y ∧ y ≤ 100000000) [.int y t] (fun t => .int (d1 y) t) := by
  unfold Cl
  intros
  rename_i hpre _ _ hret
  dsimp only at hret
  refine wpAny_call ?_
  k_dflt cell_enter
  k_steps
  · refine retI hret (by k_asm) (by k_asm) ?_
    unfold d1 months; rw [if_pos (by assumption)]
  · refine retI hret (by k_asm) (by k_asm) ?_
    unfold d1 months; rw [if_neg (by assumption)]
local macro_rules | `(tactic| walk_at "call ref") => `(tactic| (k_here; (with_reducible show wpAny _ _ (call (Value.ref 92) _) _ _ _); k_dflt (refine' c_delay1 _ _ ?k1 ?k2 ?k3 ?k4 ?k5 ?kK ?kp ?kd ?ku ?_; (case k1 => k_asm); (case k2 => k_asm); (case k3 => k_asm); (case k4 => k_asm); (case k5 => k_asm); (case kK => first | exact rfl | assumption); (case kp => first | (with_reducible exact True.intro) | omega | (with_reducible assumption)); (case kd => ktr_room); (case ku => ktr_units); intro t9 h9 tk9 F9 N9; (try dsimp only); (try k_fold))))
theorem c_delay2 (y : Int) (t : Tok) : Cl 99 2 (-9 ≤ y ∧ y ≤ 99999999) [.int y t] (fun t => .int (d2 y) t) := by
  unfold Cl
  intros
  rename_i hpre _ _ hret
  dsimp only at hret
  refine wpAny_call ?_
  k_dflt cell_enter
  k_steps
  all_goals (refine retI hret (by k_asm) (by k_asm) ?_)
  all_goals (unfold d2; repeat' split)
  all_goals omega
local macro_rules | `(tactic| walk_at "call ref") => `(tactic| (k_here; (with_reducible show wpAny _ _ (call (Value.ref 99) _) _ _ _); k_dflt (refine' c_delay2 _ _ ?k1 ?k2 ?k3 ?k4 ?k5 ?kK ?kp ?kd ?ku ?_; (case k1 => k_asm); (case k2 => k_asm); (case k3 => k_asm); (case k4 => k_asm); (case k5 => k_asm); (case kK => first | exact rfl | assumption); (case kp => first | (with_reducible exact True.intro) | omega | (with_reducible assumption)); (case kd => ktr_room); (case ku => ktr_units); intro t9 h9 tk9 F9 N9; (try dsimp only); (try k_fold))))
end Mine
end
section
open PySem PySem.W PyProof.Rows
set_option maxRecDepth 100000
namespace Mine
theorem resetMW2 : True := by
  w_top off
  k_with_none
  trivial
local macro_rules | `(tactic| ktr_rel) => `(tactic| first | (with_reducible exact rfl) | exact lit_g | exact lit_h | exact lit_i | exact lit_half | exact lit_295 | exact lit_num | exact lit_den)
local macro_rules | `(tactic| tb_start) => `(tactic| first | decide | omega)
local macro_rules | `(tactic| walk_at "binaryOp Mod int int") => `(tactic| (k_here; (with_reducible refine' m_mod ?b1 ?_); (case b1 => tb_start)))
local macro_rules | `(tactic| walk_at "binaryOp FloorDiv int int") => `(tactic| (k_here; (with_reducible refine' m_fdiv ?b1 ?b2 ?_); (case b1 => tb_start); (case b2 => tb_start)))
local macro_rules | `(tactic| walk_at "binaryOp Add float int") => `(tactic| (k_here; (with_reducible refine' m_add_fi ?hx ?b1 ?b2 ?b3 ?_); (case hx => ktr_rel); (case b1 => tb_start); (case b2 => tb_start); (case b3 => tb_start)))
local macro_rules | `(tactic| walk_at "inplaceOp Add float int") => `(tactic| (k_here; (with_reducible refine' m_iadd_fi ?hA ?hx ?b1 ?b2 ?b3 ?_); (case hA => k_dflt (exact rfl)); (case hx => ktr_rel); (case b1 => tb_start); (case b2 => tb_start); (case b3 => tb_start)))
local macro_rules | `(tactic| walk_at "binaryOp Add int float") => `(tactic| (k_here; (with_reducible refine' m_add_if ?hx ?b1 ?b2 ?b3 ?_); (case hx => ktr_rel); (case b1 => tb_start); (case b2 => tb_start); (case b3 => tb_start)))
local macro_rules | `(tactic| walk_at "binaryOp Sub float int") => `(tactic| (k_here; (with_reducible refine' m_sub_fi ?hx ?b1 ?b2 ?b3 ?_); (case hx => ktr_rel); (case b1 => tb_start); (case b2 => tb_start); (case b3 => tb_start)))
local macro_rules | `(tactic| walk_at "binaryOp Add float float") => `(tactic| (k_here; (with_reducible refine' m_add_ff ?hx ?hy ?b1 ?b2 ?b3 ?_); (case hx => ktr_rel); (case hy => ktr_rel); (case b1 => tb_start); (case b2 => tb_start); (case b3 => tb_start)))
local macro_rules | `(tactic| walk_at "binaryOp Sub float float") => `(tactic| (k_here; (with_reducible refine' m_sub_ff ?hx ?hy ?b1 ?b2 ?b3 ?_); (case hx => ktr_rel); (case hy => ktr_rel); (case b1 => tb_start); (case b2 => tb_start); (case b3 => tb_start)))
local macro_rules | `(tactic| walk_at "binaryOp Div int int") => `(tactic| (k_here; (with_reducible refine' m_div_ii ?hA ?b1 ?b2 ?_); (case hA => k_dflt (exact rfl)); (case b1 => tb_start); (case b2 => tb_start); intro z hz))
local macro_rules | `(tactic| walk_at "binaryOp Div float int") => `(tactic| (k_here; (with_reducible refine' m_div_fi ?hA ?hx ?b1 ?b2 ?b3 ?_); (case hA => k_dflt (exact rfl)); (case hx => ktr_rel); (case b1 => tb_start); (case b2 => tb_start); (case b3 => tb_start); intro z hz))
local macro_rules | `(tactic| walk_at "binaryOp Div float float") => `(tactic| (k_here; (with_reducible refine' m_div_ff ?hA ?hx ?hy ?b1 ?b2 ?b3 ?_); (case hA => k_dflt (exact rfl)); (case hx => ktr_rel); (case hy => ktr_rel); (case b1 => tb_start); (case b2 => tb_start); (case b3 => tb_start); intro z hz))
local macro_rules | `(tactic| walk_at "binaryOp Mod float int") => `(tactic| (k_here; (with_reducible refine' m_mod_fi ?hA ?hx ?b1 ?b2 ?b3 ?_); (case hA => k_dflt (exact rfl)); (case hx => ktr_rel); (case b1 => tb_start); (case b2 => tb_start); (case b3 => tb_start)))
local macro_rules | `(tactic| walk_at "call builtin:math.floor") => `(tactic| (k_here; (with_reducible show wpAny _ _ (call _ [Value.float _ _]) _ _ _); first
  | ((with_reducible refine' m_floor_Q ?hA ?hq ?b1 ?_); (case hA => k_dflt (exact rfl)); (case hq => with_reducible assumption); (case b1 => tb_start))
  | ((with_reducible refine' m_floor ?hA ?hx ?b1 ?_); (case hA => k_dflt (exact rfl)); (case hx => ktr_rel); (case b1 => tb_start))))
local macro_rules | `(tactic| walk_at "call builtin:math.ceil") => `(tactic| (k_here; (with_reducible show wpAny _ _ (call _ [Value.float _ _]) _ _ _); first
  | ((with_reducible refine' m_ceil_Q ?hA ?hq ?b1 ?_); (case hA => k_dflt (exact rfl)); (case hq => with_reducible assumption); (case b1 => tb_start))
  | ((with_reducible refine' m_ceil ?hA ?hx ?b1 ?_); (case hA => k_dflt (exact rfl)); (case hx => ktr_rel); (case b1 => tb_start))))
local macro_rules | `(tactic| walk_at "call type:int") => `(tactic| (k_here; (with_reducible show wpAny _ _ (call _ [Value.float _ _]) _ _ _); (with_reducible refine' m_int ?hA ?hx ?b1 ?b2 ?_); (case hA => k_dflt (exact rfl)); (case hx => ktr_rel); (case b1 => tb_start); (case b2 => tb_start)))
local macro_rules | `(tactic| walk_at "compareOp Gt float float") => `(tactic| (k_here; (with_reducible refine' m_gt_ff ?hx ?hy ?b1 ?b2 ?_); (case hx => ktr_rel); (case hy => ktr_rel); (case b1 => tb_start); (case b2 => tb_start)))
local macro_rules | `(tactic| walk_at "compareOp Lt float float") => `(tactic| (k_here; (with_reducible refine' m_lt_ff ?hx ?hy ?b1 ?b2 ?_); (case hx => ktr_rel); (case hy => ktr_rel); (case b1 => tb_start); (case b2 => tb_start)))
local macro_rules | `(tactic| walk_at "compareOp GtE float float") => `(tactic| (k_here; (with_reducible refine' m_ge_ff ?hx ?hy ?b1 ?b2 ?_); (case hx => ktr_rel); (case hy => ktr_rel); (case b1 => tb_start); (case b2 => tb_start)))
local macro_rules | `(tactic| walk_at "compareOp Lt float int") => `(tactic| (k_here; (with_reducible refine' m_lt_fi ?hx ?b1 ?_); (case hx => ktr_rel); (case b1 => tb_start)))
local macro_rules | `(tactic| walk_at "compareOp Eq float int") => `(tactic| (k_here; (with_reducible refine' m_eq_fi ?hx ?b1 ?_); (case hx => ktr_rel); (case b1 => tb_start)))
local macro_rules | `(tactic| walk_at "compareOp NotEq float int") => `(tactic| (k_here; (with_reducible refine' m_ne_fi ?hx ?b1 ?_); (case hx => ktr_rel); (case b1 => tb_start)))
local macro_rules | `(tactic| walk_at "UnrEnd") => `(tactic| (refine' UnrEnd.intro ?F ?N ?nn ?sub ?off ?_; (case sub => exact fun _ hp => hp); (case F => k_asm); (case N => k_asm); (case off => first | exact off_of (by assumption) | exact offI_of (by assumption)); (try ((refine' ⟨rfl, endF ?e1 ?e2, ?e3⟩); (case e1 => with_unfolding_all rfl); (case e2 => (simp only [accS]; omega)); (case e3 => (intro z h1 h2; simp only [h1, h2, if_false]))))))
local macro_rules | `(tactic| walk_at "binaryOp Mult float int") => `(tactic| (k_here; first
  | ((with_reducible refine' m_mul_fi ?hx ?b1 ?b2 ?b3 ?b4 ?_); (case hx => ktr_rel); (case b1 => tb_start); (case b2 => tb_start); (case b3 => tb_start); (case b4 => tb_start))
  | ((with_reducible refine' m_mul_fi' ?hx ?b1 ?b2 ?b3 ?b4 ?b5 ?_); (case hx => ktr_rel); (case b1 => tb_start); (case b2 => tb_start); (case b3 => tb_start); (case b4 => tb_start); (case b5 => tb_start))))
local macro_rules | `(tactic| walk_at "binaryOp Mult int float") => `(tactic| (k_here; ((with_reducible refine' m_mul_if' ?hx ?b1 ?b2 ?b3 ?b4 ?_); (case hx => ktr_rel); (case b1 => tb_start); (case b2 => tb_start); (case b3 => tb_start); (case b4 => tb_start))))
local macro_rules | `(tactic| walk_at "binaryOp Mult float float") => `(tactic| (k_here; ((with_reducible refine' m_mul_ff ?hx ?hy ?b1 ?b2 ?b3 ?b4 ?_); (case hx => ktr_rel); (case hy => exact lit_num2); (case b1 => tb_start); (case b2 => tb_start); (case b3 => tb_start); (case b4 => tb_start))))
local macro_rules | `(tactic| walk_at "call builtin:divmod") => `(tactic| (k_here; (with_reducible show wpAny _ _ (call (Value.builtin _) [Value.int _ _, Value.int _ _]) _ _ _); (rename Fr _ _ _ _ => dF); (rename News _ _ _ _ => dN); (refine' m_divmod dF dN ?b1 ?b2 ?_; (case b1 => tb_start); (case b2 => tb_start)); intro _ _ _))
set_option maxHeartbeats 8000000
local macro_rules | `(tactic| walk_at "call ref") => `(tactic| (k_here; (with_reducible show wpAny _ _ (call (Value.ref 78) _) _ _ _); k_dflt (refine' c_leap _ _ ?k1 ?k2 ?k3 ?k4 ?k5 ?kK ?kp ?kd ?ku ?_; (case k1 => k_asm); (case k2 => k_asm); (case k3 => k_asm); (case k4 => k_asm); (case k5 => k_asm); (case kK => first | exact rfl | assumption); (case kp => first | (with_reducible exact True.intro) | omega | (with_reducible assumption)); (case kd => ktr_room); (case ku => ktr_units); intro t9 h9 tk9 F9 N9; (try dsimp only); (try k_fold))))
local macro_rules | `(tactic| walk_at "call ref") => `(tactic| (k_here; (with_reducible show wpAny _ _ (call (Value.ref 85) _) _ _ _); k_dflt (refine' c_ymonths _ _ ?k1 ?k2 ?k3 ?k4 ?k5 ?kK ?kp ?kd ?ku ?_; (case k1 => k_asm); (case k2 => k_asm); (case k3 => k_asm); (case k4 => k_asm); (case k5 => k_asm); (case kK => first | exact rfl | assumption); (case kp => first | (with_reducible exact True.intro) | omega | (with_reducible assumption)); (case kd => ktr_room); (case ku => ktr_units); intro t9 h9 tk9 F9 N9; (try dsimp only); (try k_fold))))
local macro_rules | `(tactic| walk_at "call ref") => `(tactic| (k_here; (with_reducible show wpAny _ _ (call (Value.ref 92) _) _ _ _); k_dflt (refine' c_delay1 _ _ ?k1 ?k2 ?k3 ?k4 ?k5 ?kK ?kp ?kd ?ku ?_; (case k1 => k_asm); (case k2 => k_asm); (case k3 => k_asm); (case k4 => k_asm); (case k5 => k_asm); (case kK => first | exact rfl | assumption); (case kp => first | (with_reducible exact True.intro) | omega | (with_reducible assumption)); (case kd => ktr_room); (case ku => ktr_units); intro t9 h9 tk9 F9 N9; (try dsimp only); (try k_fold))))
local macro_rules | `(tactic| walk_at "call ref") => `(tactic| (k_here; (with_reducible show wpAny _ _ (call (Value.ref 99) _) _ _ _); k_dflt (refine' c_delay2 _ _ ?k1 ?k2 ?k3 ?k4 ?k5 ?kK ?kp ?kd ?ku ?_; (case k1 => k_asm); (case k2 => k_asm); (case k3 => k_asm); (case k4 => k_asm); (case k5 => k_asm); (case kK => first | exact rfl | assumption); (case kp => first | (with_reducible exact True.intro) | omega | (with_reducible assumption)); (case kd => ktr_room); (case ku => ktr_units); intro t9 h9 tk9 F9 N9; (try dsimp only); (try k_fold))))
theorem c_tojd7 (y d : Int) (t u v : Tok) : Cl 127 3 ((-5 ≤ y ∧ y ≤ 99999990) ∧ 1 ≤ d ∧ d ≤ 31) [.int y t, .int 7 u, .int d v] (fun t => .float (hf (2 * (347996 + T y + d) + 1)) t) := by
  unfold Cl
  intros
  rename_i hpre _ _ hret
  dsimp only at hret
  have hb1 := d1_bound (y := y) (by omega)
  have hb2 := d2_bound y
  refine wpAny_call ?_
  k_dflt cell_enter
  k_steps
  all_goals (refine retF hret (by k_asm) (by k_asm) ?_)
  all_goals (unfold T; omega)
local macro_rules | `(tactic| walk_at "call ref") => `(tactic| (k_here; (with_reducible show wpAny _ _ (call (Value.ref 127) _) _ _ _); k_dflt (refine' c_tojd7 _ _ _ _ _ ?k1 ?k2 ?k3 ?k4 ?k5 ?kK ?kp ?kd ?ku ?_; (case k1 => k_asm); (case k2 => k_asm); (case k3 => k_asm); (case k4 => k_asm); (case k5 => k_asm); (case kK => first | exact rfl | assumption); (case kp => first | (with_reducible exact True.intro) | omega | (with_reducible assumption)); (case kd => ktr_room); (case ku => ktr_units); intro t9 h9 tk9 F9 N9; (try dsimp only); (try k_fold))))
theorem c_ydays (y : Int) (t : Tok) : Cl 106 4 (-5 ≤ y ∧ y ≤ 99999980) [.int y t] (fun t => .float (hf (2 * yd y)) t) := by
  unfold Cl
  intros
  rename_i hpre _ _ hret
  dsimp only at hret
  have hb1 := T_bound (y := y) (by omega)
  have hb2 := T_bound (y := y + 1) (by omega)
  refine wpAny_call ?_
  k_dflt cell_enter
  k_steps
  all_goals (refine retF hret (by k_asm) (by k_asm) ?_)
  all_goals (unfold yd; omega)
local macro_rules | `(tactic| walk_at "call ref") => `(tactic| (k_here; (with_reducible show wpAny _ _ (call (Value.ref 106) _) _ _ _); k_dflt (refine' c_ydays _ _ ?k1 ?k2 ?k3 ?k4 ?k5 ?kK ?kp ?kd ?ku ?_; (case k1 => k_asm); (case k2 => k_asm); (case k3 => k_asm); (case k4 => k_asm); (case k5 => k_asm); (case kK => first | exact rfl | assumption); (case kp => first | (with_reducible exact True.intro) | omega | (with_reducible assumption)); (case kd => ktr_room); (case ku => ktr_units); intro t9 h9 tk9 F9 N9; (try dsimp only); (try k_fold))))
theorem c_mlen (y m : Int) (t u : Tok) : Cl 113 5 ((-5 ≤ y ∧ y ≤ 99999980) ∧ 1 ≤ m ∧ m ≤ 13) [.int y t, .int m u] (fun t => .int (ml y m) t) := by
  unfold Cl
  intros
  rename_i hpre _ _ hret
  dsimp only at hret
  have hb1 := T_bound (y := y) (by omega)
  have hb2 := T_bound (y := y + 1) (by omega)
  have hb3 : yd y = T (y + 1) - T y := rfl
  refine wpAny_call ?_
  k_dflt cell_enter
  k_steps
  all_goals (refine retI hret (by k_asm) (by first | k_asm | (refine' cb_drop ?cbN ?cbS; (case cbN => assumption); (case cbS => kcj_all))) ?_)
  all_goals (unfold ml)
  all_goals first | exact (if_pos (hin_t (by assumption))).symm | (rw [if_neg (hin_f (by assumption))])
  all_goals (repeat' split)
  all_goals first | omega | (exfalso; simp_all; done)
local macro_rules | `(tactic| walk_at "call ref") => `(tactic| (k_here; (with_reducible show wpAny _ _ (call (Value.ref 113) _) _ _ _); k_dflt (refine' c_mlen _ _ _ _ ?k1 ?k2 ?k3 ?k4 ?k5 ?kK ?kp ?kd ?ku ?_; (case k1 => k_asm); (case k2 => k_asm); (case k3 => k_asm); (case k4 => k_asm); (case k5 => k_asm); (case kK => first | exact rfl | assumption); (case kp => first | (with_reducible exact True.intro) | omega | (with_reducible assumption)); (case kd => ktr_room); (case ku => ktr_units); intro t9 h9 tk9 F9 N9; (try dsimp only); (try k_fold))))
theorem c_mdays (y m : Int) (t u : Tok) : Cl 120 6 ((-5 ≤ y ∧ y ≤ 99999980) ∧ 1 ≤ m ∧ m ≤ 13) [.int y t, .int m u] (fun t => .int (ml y m) t) := by
  unfold Cl
  intros
  rename_i hpre _ _ hret
  dsimp only at hret
  refine wpAny_call ?_
  k_dflt cell_enter
  k_steps
  all_goals (refine retI hret (by k_asm) (by k_asm) rfl)
end Mine
end
section
open PySem PySem.W PyProof.Rows
set_option maxRecDepth 100000
namespace Mine
theorem resetMW3 : True := by
  w_top off
  k_with_none
  trivial
local macro_rules | `(tactic| ktr_rel) => `(tactic| first | (with_reducible exact rfl) | exact lit_g | exact lit_h | exact lit_i | exact lit_half | exact lit_295 | exact lit_num | exact lit_den)
local macro_rules | `(tactic| tb_start) => `(tactic| first | decide | omega)
local macro_rules | `(tactic| walk_at "binaryOp Mod int int") => `(tactic| (k_here; (with_reducible refine' m_mod ?b1 ?_); (case b1 => tb_start)))
local macro_rules | `(tactic| walk_at "binaryOp FloorDiv int int") => `(tactic| (k_here; (with_reducible refine' m_fdiv ?b1 ?b2 ?_); (case b1 => tb_start); (case b2 => tb_start)))
local macro_rules | `(tactic| walk_at "binaryOp Add float int") => `(tactic| (k_here; (with_reducible refine' m_add_fi ?hx ?b1 ?b2 ?b3 ?_); (case hx => ktr_rel); (case b1 => tb_start); (case b2 => tb_start); (case b3 => tb_start)))
local macro_rules | `(tactic| walk_at "inplaceOp Add float int") => `(tactic| (k_here; (with_reducible refine' m_iadd_fi ?hA ?hx ?b1 ?b2 ?b3 ?_); (case hA => k_dflt (exact rfl)); (case hx => ktr_rel); (case b1 => tb_start); (case b2 => tb_start); (case b3 => tb_start)))
local macro_rules | `(tactic| walk_at "binaryOp Add int float") => `(tactic| (k_here; (with_reducible refine' m_add_if ?hx ?b1 ?b2 ?b3 ?_); (case hx => ktr_rel); (case b1 => tb_start); (case b2 => tb_start); (case b3 => tb_start)))
local macro_rules | `(tactic| walk_at "binaryOp Sub float int") => `(tactic| (k_here; (with_reducible refine' m_sub_fi ?hx ?b1 ?b2 ?b3 ?_); (case hx => ktr_rel); (case b1 => tb_start); (case b2 => tb_start); (case b3 => tb_start)))
local macro_rules | `(tactic| walk_at "binaryOp Add float float") => `(tactic| (k_here; (with_reducible refine' m_add_ff ?hx ?hy ?b1 ?b2 ?b3 ?_); (case hx => ktr_rel); (case hy => ktr_rel); (case b1 => tb_start); (case b2 => tb_start); (case b3 => tb_start)))
local macro_rules | `(tactic| walk_at "binaryOp Sub float float") => `(tactic| (k_here; (with_reducible refine' m_sub_ff ?hx ?hy ?b1 ?b2 ?b3 ?_); (case hx => ktr_rel); (case hy => ktr_rel); (case b1 => tb_start); (case b2 => tb_start); (case b3 => tb_start)))
local macro_rules | `(tactic| walk_at "binaryOp Div int int") => `(tactic| (k_here; (with_reducible refine' m_div_ii ?hA ?b1 ?b2 ?_); (case hA => k_dflt (exact rfl)); (case b1 => tb_start); (case b2 => tb_start); intro z hz))
local macro_rules | `(tactic| walk_at "binaryOp Div float int") => `(tactic| (k_here; (with_reducible refine' m_div_fi ?hA ?hx ?b1 ?b2 ?b3 ?_); (case hA => k_dflt (exact rfl)); (case hx => ktr_rel); (case b1 => tb_start); (case b2 => tb_start); (case b3 => tb_start); intro z hz))
local macro_rules | `(tactic| walk_at "binaryOp Div float float") => `(tactic| (k_here; (with_reducible refine' m_div_ff ?hA ?hx ?hy ?b1 ?b2 ?b3 ?_); (case hA => k_dflt (exact rfl)); (case hx => ktr_rel); (case hy => ktr_rel); (case b1 => tb_start); (case b2 => tb_start); (case b3 => tb_start); intro z hz))
local macro_rules | `(tactic| walk_at "binaryOp Mod float int") => `(tactic| (k_here; (with_reducible refine' m_mod_fi ?hA ?hx ?b1 ?b2 ?b3 ?_); (case hA => k_dflt (exact rfl)); (case hx => ktr_rel); (case b1 => tb_start); (case b2 => tb_start); (case b3 => tb_start)))
local macro_rules | `(tactic| walk_at "call builtin:math.floor") => `(tactic| (k_here; (with_reducible show wpAny _ _ (call _ [Value.float _ _]) _ _ _); first
  | ((with_reducible refine' m_floor_Q ?hA ?hq ?b1 ?_); (case hA => k_dflt (exact rfl)); (case hq => with_reducible assumption); (case b1 => tb_start))
  | ((with_reducible refine' m_floor ?hA ?hx ?b1 ?_); (case hA => k_dflt (exact rfl)); (case hx => ktr_rel); (case b1 => tb_start))))
local macro_rules | `(tactic| walk_at "call builtin:math.ceil") => `(tactic| (k_here; (with_reducible show wpAny _ _ (call _ [Value.float _ _]) _ _ _); first
  | ((with_reducible refine' m_ceil_Q ?hA ?hq ?b1 ?_); (case hA => k_dflt (exact rfl)); (case hq => with_reducible assumption); (case b1 => tb_start))
  | ((with_reducible refine' m_ceil ?hA ?hx ?b1 ?_); (case hA => k_dflt (exact rfl)); (case hx => ktr_rel); (case b1 => tb_start))))
local macro_rules | `(tactic| walk_at "call type:int") => `(tactic| (k_here; (with_reducible show wpAny _ _ (call _ [Value.float _ _]) _ _ _); (with_reducible refine' m_int ?hA ?hx ?b1 ?b2 ?_); (case hA => k_dflt (exact rfl)); (case hx => ktr_rel); (case b1 => tb_start); (case b2 => tb_start)))
local macro_rules | `(tactic| walk_at "compareOp Gt float float") => `(tactic| (k_here; (with_reducible refine' m_gt_ff ?hx ?hy ?b1 ?b2 ?_); (case hx => ktr_rel); (case hy => ktr_rel); (case b1 => tb_start); (case b2 => tb_start)))
local macro_rules | `(tactic| walk_at "compareOp Lt float float") => `(tactic| (k_here; (with_reducible refine' m_lt_ff ?hx ?hy ?b1 ?b2 ?_); (case hx => ktr_rel); (case hy => ktr_rel); (case b1 => tb_start); (case b2 => tb_start)))
local macro_rules | `(tactic| walk_at "compareOp GtE float float") => `(tactic| (k_here; (with_reducible refine' m_ge_ff ?hx ?hy ?b1 ?b2 ?_); (case hx => ktr_rel); (case hy => ktr_rel); (case b1 => tb_start); (case b2 => tb_start)))
local macro_rules | `(tactic| walk_at "compareOp Lt float int") => `(tactic| (k_here; (with_reducible refine' m_lt_fi ?hx ?b1 ?_); (case hx => ktr_rel); (case b1 => tb_start)))
local macro_rules | `(tactic| walk_at "compareOp Eq float int") => `(tactic| (k_here; (with_reducible refine' m_eq_fi ?hx ?b1 ?_); (case hx => ktr_rel); (case b1 => tb_start)))
local macro_rules | `(tactic| walk_at "compareOp NotEq float int") => `(tactic| (k_here; (with_reducible refine' m_ne_fi ?hx ?b1 ?_); (case hx => ktr_rel); (case b1 => tb_start)))
local macro_rules | `(tactic| walk_at "UnrEnd") => `(tactic| (refine' UnrEnd.intro ?F ?N ?nn ?sub ?off ?_; (case sub => exact fun _ hp => hp); (case F => k_asm); (case N => k_asm); (case off => first | exact off_of (by assumption) | exact offI_of (by assumption)); (try ((refine' ⟨rfl, endF ?e1 ?e2, ?e3⟩); (case e1 => with_unfolding_all rfl); (case e2 => (simp only [accS]; omega)); (case e3 => (intro z h1 h2; simp only [h1, h2, if_false]))))))
local macro_rules | `(tactic| walk_at "binaryOp Mult float int") => `(tactic| (k_here; first
  | ((with_reducible refine' m_mul_fi ?hx ?b1 ?b2 ?b3 ?b4 ?_); (case hx => ktr_rel); (case b1 => tb_start); (case b2 => tb_start); (case b3 => tb_start); (case b4 => tb_start))
  | ((with_reducible refine' m_mul_fi' ?hx ?b1 ?b2 ?b3 ?b4 ?b5 ?_); (case hx => ktr_rel); (case b1 => tb_start); (case b2 => tb_start); (case b3 => tb_start); (case b4 => tb_start); (case b5 => tb_start))))
local macro_rules | `(tactic| walk_at "binaryOp Mult int float") => `(tactic| (k_here; ((with_reducible refine' m_mul_if' ?hx ?b1 ?b2 ?b3 ?b4 ?_); (case hx => ktr_rel); (case b1 => tb_start); (case b2 => tb_start); (case b3 => tb_start); (case b4 => tb_start))))
local macro_rules | `(tactic| walk_at "binaryOp Mult float float") => `(tactic| (k_here; ((with_reducible refine' m_mul_ff ?hx ?hy ?b1 ?b2 ?b3 ?b4 ?_); (case hx => ktr_rel); (case hy => exact lit_num2); (case b1 => tb_start); (case b2 => tb_start); (case b3 => tb_start); (case b4 => tb_start))))
local macro_rules | `(tactic| walk_at "call builtin:divmod") => `(tactic| (k_here; (with_reducible show wpAny _ _ (call (Value.builtin _) [Value.int _ _, Value.int _ _]) _ _ _); (rename Fr _ _ _ _ => dF); (rename News _ _ _ _ => dN); (refine' m_divmod dF dN ?b1 ?b2 ?_; (case b1 => tb_start); (case b2 => tb_start)); intro _ _ _))
set_option maxHeartbeats 8000000
local macro_rules | `(tactic| walk_at "pyIter ref") => `(tactic| k_extra "pyIter ref")
local macro_rules | `(tactic| walk_at "call ref") => `(tactic| (k_here; (with_reducible show wpAny _ _ (call (Value.ref 92) _) _ _ _); k_dflt (refine' c_delay1 _ _ ?k1 ?k2 ?k3 ?k4 ?k5 ?kK ?kp ?kd ?ku ?_; (case k1 => k_asm); (case k2 => k_asm); (case k3 => k_asm); (case k4 => k_asm); (case k5 => k_asm); (case kK => first | exact rfl | assumption); (case kp => first | (with_reducible exact True.intro) | omega | (with_reducible assumption)); (case kd => ktr_room); (case ku => ktr_units); intro t9 h9 tk9 F9 N9; (try dsimp only); (try k_fold))))
local macro_rules | `(tactic| walk_at "call ref") => `(tactic| (k_here; (with_reducible show wpAny _ _ (call (Value.ref 99) _) _ _ _); k_dflt (refine' c_delay2 _ _ ?k1 ?k2 ?k3 ?k4 ?k5 ?kK ?kp ?kd ?ku ?_; (case k1 => k_asm); (case k2 => k_asm); (case k3 => k_asm); (case k4 => k_asm); (case k5 => k_asm); (case kK => first | exact rfl | assumption); (case kp => first | (with_reducible exact True.intro) | omega | (with_reducible assumption)); (case kd => ktr_room); (case ku => ktr_units); intro t9 h9 tk9 F9 N9; (try dsimp only); (try k_fold))))
local macro_rules | `(tactic| walk_at "call ref") => `(tactic| (k_here; (with_reducible show wpAny _ _ (call (Value.ref 120) _) _ _ _); k_dflt (refine' c_mdays _ _ _ _ ?k1 ?k2 ?k3 ?k4 ?k5 ?kK ?kp ?kd ?ku ?_; (case k1 => k_asm); (case k2 => k_asm); (case k3 => k_asm); (case k4 => k_asm); (case k5 => k_asm); (case kK => first | exact rfl | assumption); (case kp => first | (with_reducible exact True.intro) | omega | (with_reducible assumption)); (case kd => ktr_room); (case ku => ktr_units); intro t9 h9 tk9 F9 N9; (try dsimp only); (try k_fold))))
theorem c_ymM (y mo : Int) (t : Tok) (h : mo = if leapB y = true then 13 else 12) : Cl 85 2 True [.int y t] (fun t => .int mo t) := by
  subst h
  exact c_ymonths y t
local macro_rules | `(tactic| walk_at "call ref") => `(tactic| (k_here; (with_reducible show wpAny _ _ (call (Value.ref 85) _) _ _ _); k_dflt (refine' c_ymM _ _ _ (by assumption) ?k1 ?k2 ?k3 ?k4 ?k5 ?kK ?kp ?kd ?ku ?_; (case k1 => k_asm); (case k2 => k_asm); (case k3 => k_asm); (case k4 => k_asm); (case k5 => k_asm); (case kK => first | exact rfl | assumption); (case kp => first | (with_reducible exact True.intro) | omega | (with_reducible assumption)); (case kd => ktr_room); (case ku => ktr_units); intro t9 h9 tk9 F9 N9; (try dsimp only); (try k_fold))))
theorem acc7 (y m : Int) (h : 7 ≤ m ∧ m ≤ 14) : accS (ml y) 7 (m - 7).toNat = s7 y m := by
  have hm : m = 7 ∨ m = 8 ∨ m = 9 ∨ m = 10 ∨ m = 11 ∨ m = 12 ∨ m = 13 ∨ m = 14 := by omega
  rcases hm with rfl | rfl | rfl | rfl | rfl | rfl | rfl | rfl <;> simp [s7, accS]
theorem acc1 (y m : Int) (h : 1 ≤ m ∧ m ≤ 6) : accS (ml y) 1 (m - 1).toNat = s1 y m := by
  have hm : m = 1 ∨ m = 2 ∨ m = 3 ∨ m = 4 ∨ m = 5 ∨ m = 6 := by omega
  rcases hm with rfl | rfl | rfl | rfl | rfl | rfl <;> simp [s1, accS]
theorem c_tojd (y m d : Int) (t u v : Tok) : Cl 127 7 ((-5 ≤ y ∧ y ≤ 99999980) ∧ (1 ≤ m ∧ m ≤ 13) ∧ 1 ≤ d ∧ d ≤ 31) [.int y t, .int m u, .int d v] (fun t => .float (hf (2 * tj y m d + 1)) t) := by
  unfold Cl
  intros
  rename_i hpre _ _ hret
  dsimp only at hret
  have hb1 := d1_bound (y := y) (by omega)
  have hb2 := d2_bound y
  obtain ⟨mo, hmo, hmb⟩ : ∃ mo : Int, (mo = if leapB y = true then 13 else 12) ∧ 12 ≤ mo ∧ mo ≤ 13 := ⟨_, rfl, by split <;> omega⟩
  k_with_none
  k_with "pyIter ref" => ((rename IsRange _ _ _ _ _ _ _ _ => hR); (rename Fr _ _ _ _ => lF); (rename News _ _ _ _ => lN); k_dflt (refine' iter_accF (y := PySem.Str.ofString "jd") (ml y) (fun k => ⟨by have := ml_bound y k; omega, (ml_bound y k).2⟩) ?hh hR ?hb lF lN ?hy ?hyx ?_ ?_; (case hh => exact rfl); (case hb => omega); (case hy => rfl); (case hyx => decide)); intro i9 t9 ta9 h9 tk9 I9 hi9 ha9 hb9 hI9 F9 N9; rotate_left; intro u9 t9 h9 tk9 ha9 F9 N9; rotate_left)
  refine wpAny_call ?_
  k_dflt cell_enter
  k_steps
  all_goals (refine retF hret (by k_asm) (by k_asm) ?_)
  all_goals (unfold tj off Mine.T)
  · rw [if_pos (by assumption)]
    have e1 : accS (ml y) 7 (mo + 1 - 7).toNat = s7 y (if leapB y = true then 14 else 13) := by
      rw [acc7 y (mo + 1) (by omega), hmo]; split <;> rfl
    rw [e1, acc1 y m (by omega)] at *
    omega
  · rw [if_neg (by assumption)]
    rw [acc7 y m (by omega)] at *
    omega
end Mine
end
section
open PySem PySem.W PyProof.Rows
set_option maxRecDepth 100000
namespace Mine
theorem resetMW4 : True := by
  w_top off
  k_with_none
  trivial
local macro_rules | `(tactic| ktr_rel) => `(tactic| first | (with_reducible exact rfl) | exact lit_g | exact lit_h | exact lit_i | exact lit_half | exact lit_295 | exact lit_num | exact lit_den)
local macro_rules | `(tactic| tb_start) => `(tactic| first | decide | omega)
local macro_rules | `(tactic| walk_at "binaryOp Mod int int") => `(tactic| (k_here; (with_reducible refine' m_mod ?b1 ?_); (case b1 => tb_start)))
local macro_rules | `(tactic| walk_at "binaryOp FloorDiv int int") => `(tactic| (k_here; (with_reducible refine' m_fdiv ?b1 ?b2 ?_); (case b1 => tb_start); (case b2 => tb_start)))
local macro_rules | `(tactic| walk_at "binaryOp Add float int") => `(tactic| (k_here; (with_reducible refine' m_add_fi ?hx ?b1 ?b2 ?b3 ?_); (case hx => ktr_rel); (case b1 => tb_start); (case b2 => tb_start); (case b3 => tb_start)))
local macro_rules | `(tactic| walk_at "inplaceOp Add float int") => `(tactic| (k_here; (with_reducible refine' m_iadd_fi ?hA ?hx ?b1 ?b2 ?b3 ?_); (case hA => k_dflt (exact rfl)); (case hx => ktr_rel); (case b1 => tb_start); (case b2 => tb_start); (case b3 => tb_start)))
local macro_rules | `(tactic| walk_at "binaryOp Add int float") => `(tactic| (k_here; (with_reducible refine' m_add_if ?hx ?b1 ?b2 ?b3 ?_); (case hx => ktr_rel); (case b1 => tb_start); (case b2 => tb_start); (case b3 => tb_start)))
local macro_rules | `(tactic| walk_at "binaryOp Sub float int") => `(tactic| (k_here; (with_reducible refine' m_sub_fi ?hx ?b1 ?b2 ?b3 ?_); (case hx => ktr_rel); (case b1 => tb_start); (case b2 => tb_start); (case b3 => tb_start)))
local macro_rules | `(tactic| walk_at "binaryOp Add float float") => `(tactic| (k_here; (with_reducible refine' m_add_ff ?hx ?hy ?b1 ?b2 ?b3 ?_); (case hx => ktr_rel); (case hy => ktr_rel); (case b1 => tb_start); (case b2 => tb_start); (case b3 => tb_start)))
local macro_rules | `(tactic| walk_at "binaryOp Sub float float") => `(tactic| (k_here; (with_reducible refine' m_sub_ff ?hx ?hy ?b1 ?b2 ?b3 ?_); (case hx => ktr_rel); (case hy => ktr_rel); (case b1 => tb_start); (case b2 => tb_start); (case b3 => tb_start)))
local macro_rules | `(tactic| walk_at "binaryOp Div int int") => `(tactic| (k_here; (with_reducible refine' m_div_ii ?hA ?b1 ?b2 ?_); (case hA => k_dflt (exact rfl)); (case b1 => tb_start); (case b2 => tb_start); intro z hz))
local macro_rules | `(tactic| walk_at "binaryOp Div float int") => `(tactic| (k_here; (with_reducible refine' m_div_fi ?hA ?hx ?b1 ?b2 ?b3 ?_); (case hA => k_dflt (exact rfl)); (case hx => ktr_rel); (case b1 => tb_start); (case b2 => tb_start); (case b3 => tb_start); intro z hz))
local macro_rules | `(tactic| walk_at "binaryOp Div float float") => `(tactic| (k_here; (with_reducible refine' m_div_ff ?hA ?hx ?hy ?b1 ?b2 ?b3 ?_); (case hA => k_dflt (exact rfl)); (case hx => ktr_rel); (case hy => ktr_rel); (case b1 => tb_start); (case b2 => tb_start); (case b3 => tb_start); intro z hz))
local macro_rules | `(tactic| walk_at "binaryOp Mod float int") => `(tactic| (k_here; (with_reducible refine' m_mod_fi ?hA ?hx ?b1 ?b2 ?b3 ?_); (case hA => k_dflt (exact rfl)); (case hx => ktr_rel); (case b1 => tb_start); (case b2 => tb_start); (case b3 => tb_start)))
local macro_rules | `(tactic| walk_at "call builtin:math.floor") => `(tactic| (k_here; (with_reducible show wpAny _ _ (call _ [Value.float _ _]) _ _ _); first
  | ((with_reducible refine' m_floor_Q ?hA ?hq ?b1 ?_); (case hA => k_dflt (exact rfl)); (case hq => with_reducible assumption); (case b1 => tb_start))
  | ((with_reducible refine' m_floor ?hA ?hx ?b1 ?_); (case hA => k_dflt (exact rfl)); (case hx => ktr_rel); (case b1 => tb_start))))
local macro_rules | `(tactic| walk_at "call builtin:math.ceil") => `(tactic| (k_here; (with_reducible show wpAny _ _ (call _ [Value.float _ _]) _ _ _); first
  | ((with_reducible refine' m_ceil_Q ?hA ?hq ?b1 ?_); (case hA => k_dflt (exact rfl)); (case hq => with_reducible assumption); (case b1 => tb_start))
  | ((with_reducible refine' m_ceil ?hA ?hx ?b1 ?_); (case hA => k_dflt (exact rfl)); (case hx => ktr_rel); (case b1 => tb_start))))
local macro_rules | `(tactic| walk_at "call type:int") => `(tactic| (k_here; (with_reducible show wpAny _ _ (call _ [Value.float _ _]) _ _ _); (with_reducible refine' m_int ?hA ?hx ?b1 ?b2 ?_); (case hA => k_dflt (exact rfl)); (case hx => ktr_rel); (case b1 => tb_start); (case b2 => tb_start)))
local macro_rules | `(tactic| walk_at "compareOp Gt float float") => `(tactic| (k_here; (with_reducible refine' m_gt_ff ?hx ?hy ?b1 ?b2 ?_); (case hx => ktr_rel); (case hy => ktr_rel); (case b1 => tb_start); (case b2 => tb_start)))
local macro_rules | `(tactic| walk_at "compareOp Lt float float") => `(tactic| (k_here; (with_reducible refine' m_lt_ff ?hx ?hy ?b1 ?b2 ?_); (case hx => ktr_rel); (case hy => ktr_rel); (case b1 => tb_start); (case b2 => tb_start)))
local macro_rules | `(tactic| walk_at "compareOp GtE float float") => `(tactic| (k_here; (with_reducible refine' m_ge_ff ?hx ?hy ?b1 ?b2 ?_); (case hx => ktr_rel); (case hy => ktr_rel); (case b1 => tb_start); (case b2 => tb_start)))
local macro_rules | `(tactic| walk_at "compareOp Lt float int") => `(tactic| (k_here; (with_reducible refine' m_lt_fi ?hx ?b1 ?_); (case hx => ktr_rel); (case b1 => tb_start)))
local macro_rules | `(tactic| walk_at "compareOp Eq float int") => `(tactic| (k_here; (with_reducible refine' m_eq_fi ?hx ?b1 ?_); (case hx => ktr_rel); (case b1 => tb_start)))
local macro_rules | `(tactic| walk_at "compareOp NotEq float int") => `(tactic| (k_here; (with_reducible refine' m_ne_fi ?hx ?b1 ?_); (case hx => ktr_rel); (case b1 => tb_start)))
local macro_rules | `(tactic| walk_at "UnrEnd") => `(tactic| (refine' UnrEnd.intro ?F ?N ?nn ?sub ?off ?_; (case sub => exact fun _ hp => hp); (case F => k_asm); (case N => k_asm); (case off => first | exact off_of (by assumption) | exact offI_of (by assumption)); (try ((refine' ⟨rfl, endF ?e1 ?e2, ?e3⟩); (case e1 => with_unfolding_all rfl); (case e2 => (simp only [accS]; omega)); (case e3 => (intro z h1 h2; simp only [h1, h2, if_false]))))))
local macro_rules | `(tactic| walk_at "binaryOp Mult float int") => `(tactic| (k_here; first
  | ((with_reducible refine' m_mul_fi ?hx ?b1 ?b2 ?b3 ?b4 ?_); (case hx => ktr_rel); (case b1 => tb_start); (case b2 => tb_start); (case b3 => tb_start); (case b4 => tb_start))
  | ((with_reducible refine' m_mul_fi' ?hx ?b1 ?b2 ?b3 ?b4 ?b5 ?_); (case hx => ktr_rel); (case b1 => tb_start); (case b2 => tb_start); (case b3 => tb_start); (case b4 => tb_start); (case b5 => tb_start))))
local macro_rules | `(tactic| walk_at "binaryOp Mult int float") => `(tactic| (k_here; ((with_reducible refine' m_mul_if' ?hx ?b1 ?b2 ?b3 ?b4 ?_); (case hx => ktr_rel); (case b1 => tb_start); (case b2 => tb_start); (case b3 => tb_start); (case b4 => tb_start))))
local macro_rules | `(tactic| walk_at "binaryOp Mult float float") => `(tactic| (k_here; ((with_reducible refine' m_mul_ff ?hx ?hy ?b1 ?b2 ?b3 ?b4 ?_); (case hx => ktr_rel); (case hy => exact lit_num2); (case b1 => tb_start); (case b2 => tb_start); (case b3 => tb_start); (case b4 => tb_start))))
local macro_rules | `(tactic| walk_at "call builtin:divmod") => `(tactic| (k_here; (with_reducible show wpAny _ _ (call (Value.builtin _) [Value.int _ _, Value.int _ _]) _ _ _); (rename Fr _ _ _ _ => dF); (rename News _ _ _ _ => dN); (refine' m_divmod dF dN ?b1 ?b2 ?_; (case b1 => tb_start); (case b2 => tb_start)); intro _ _ _))
set_option maxHeartbeats 8000000
local macro_rules | `(tactic| walk_at "binaryOp Div int int") => `(tactic| (k_here; (with_reducible refine' m_div_g ?hA ?b1 ?_); (case hA => k_dflt (exact rfl)); (case b1 => tb_start)))
local macro_rules | `(tactic| walk_at "binaryOp Add float int") => `(tactic| (k_here; first | ((with_reducible refine' m_add_gq ?b1 ?_); (case b1 => tb_start)) | ((with_reducible refine' m_add_gr ?b1 ?_); (case b1 => tb_start))))
local macro_rules | `(tactic| walk_at "call builtin:math.floor") => `(tactic| (k_here; (with_reducible refine' m_floor_g ?hA ?b1 ?b2 ?b3 ?b4 ?_); (case b4 => with_reducible exact rfl); (case hA => k_dflt (exact rfl)); (case b1 => tb_start); (case b2 => tb_start); (case b3 => tb_start)))
local macro_rules | `(tactic| walk_at "compareOp In int ref") => `(tactic| (k_here; (with_reducible show wpAny _ _ (compareOp CmpOp.In (Value.int _ _) (Value.ref 43)) _ _ _); k_dflt (refine' in43 ?F ?X ?_; (case F => k_asm); (case X => k_asm))))
theorem c_isleap (y : Int) (t : Tok) : Cl 50 1 (True) [.int y t] (fun t => .bool (gl y)) := by
  unfold Cl
  intros
  rename_i hpre _ _ hret
  dsimp only at hret
  refine wpAny_call ?_
  k_dflt cell_enter
  k_steps
  all_goals (refine retB hret (by k_asm) (by k_asm) ?_)
  all_goals (unfold gl)
  all_goals (simp_all; done)
local macro_rules | `(tactic| walk_at "call ref") => `(tactic| (k_here; (with_reducible show wpAny _ _ (call (Value.ref 50) _) _ _ _); k_dflt (refine' c_isleap _ _ ?k1 ?k2 ?k3 ?k4 ?k5 ?kK ?kp ?kd ?ku ?_; (case k1 => k_asm); (case k2 => k_asm); (case k3 => k_asm); (case k4 => k_asm); (case k5 => k_asm); (case kK => first | exact rfl | assumption); (case kp => first | (with_reducible exact True.intro) | omega | (with_reducible assumption)); (case kd => ktr_room); (case ku => ktr_units); intro t9 h9 tk9 F9 N9; (try dsimp only); (try k_fold))))
theorem c_legal (y m d : Int) (t u v : Tok) : Cl 57 2 ((1 ≤ m ∧ m ≤ 12) ∧ 1 ≤ d ∧ d ≤ dim y m) [.int y t, .int m u, .int d v] (fun t => .bool true) := by
  unfold Cl
  intros
  rename_i hpre _ _ hret
  dsimp only at hret
  have hdd : dim y m = if m = 2 then (if gl y = true then 29 else 28) else if m = 4 ∨ m = 6 ∨ m = 9 ∨ m = 11 then 30 else 31 := rfl
  refine wpAny_call ?_
  k_dflt cell_enter
  k_steps
  all_goals first
    | (refine retB hret (by k_asm) (by first | k_asm | (refine' cb_drop ?cbN ?cbS; (case cbN => assumption); (case cbS => kcj_all))) rfl)
    | (exfalso; first | (have hx := dim28 (y := y) (by assumption) (by assumption); omega) | (have hx := dim29 (y := y) (by assumption) (by assumption); omega) | (have hx := dim30 (y := y) (by assumption); omega) | (have hx := dim31 (y := y) (by assumption) (by assumption); omega))
local macro_rules | `(tactic| walk_at "call ref") => `(tactic| (k_here; (with_reducible show wpAny _ _ (call (Value.ref 57) _) _ _ _); k_dflt (refine' c_legal _ _ _ _ _ _ ?k1 ?k2 ?k3 ?k4 ?k5 ?kK ?kp ?kd ?ku ?_; (case k1 => k_asm); (case k2 => k_asm); (case k3 => k_asm); (case k4 => k_asm); (case k5 => k_asm); (case kK => first | exact rfl | assumption); (case kp => first | (with_reducible exact True.intro) | omega | (with_reducible assumption)); (case kd => ktr_room); (case ku => ktr_units); intro t9 h9 tk9 F9 N9; (try dsimp only); (try k_fold))))
theorem c_gj (y m d : Int) (t u v : Tok) : Cl 64 3 ((-100000 ≤ y ∧ y ≤ 100000000) ∧ (1 ≤ m ∧ m ≤ 12) ∧ 1 ≤ d ∧ d ≤ dim y m) [.int y t, .int m u, .int d v] (fun t => .float (hf (2 * gj y m d + 1)) t) := by
  unfold Cl
  intros
  rename_i hpre _ _ hret
  dsimp only at hret
  have hdm := dim_bound y m
  refine wpAny_call ?_
  k_dflt cell_enter
  k_steps
  all_goals (refine retF hret (by k_asm) (by k_asm) ?_)
  all_goals (unfold gj gadj)
  all_goals (simp only [*, if_true, if_false, Bool.false_eq_true]; try omega)
end Mine
end
section
open PySem PySem.W PyProof.Rows
set_option maxRecDepth 100000
namespace Mine
theorem resetMW5 : True := by
  w_top off
  k_with_none
  trivial
local macro_rules | `(tactic| walk_at "pad") => `(tactic| fail)
local macro_rules | `(tactic| ktr_rel) => `(tactic| first | (with_reducible exact rfl) | exact lit_g | exact lit_h | exact lit_i | exact lit_half | exact lit_295 | exact lit_num | exact lit_den)
local macro_rules | `(tactic| tb_start) => `(tactic| first | decide | omega)
local macro_rules | `(tactic| walk_at "binaryOp Mod int int") => `(tactic| (k_here; (with_reducible refine' m_mod ?b1 ?_); (case b1 => tb_start)))
local macro_rules | `(tactic| walk_at "binaryOp FloorDiv int int") => `(tactic| (k_here; (with_reducible refine' m_fdiv ?b1 ?b2 ?_); (case b1 => tb_start); (case b2 => tb_start)))
local macro_rules | `(tactic| walk_at "binaryOp Add float int") => `(tactic| (k_here; (with_reducible refine' m_add_fi ?hx ?b1 ?b2 ?b3 ?_); (case hx => ktr_rel); (case b1 => tb_start); (case b2 => tb_start); (case b3 => tb_start)))
local macro_rules | `(tactic| walk_at "inplaceOp Add float int") => `(tactic| (k_here; (with_reducible refine' m_iadd_fi ?hA ?hx ?b1 ?b2 ?b3 ?_); (case hA => k_dflt (exact rfl)); (case hx => ktr_rel); (case b1 => tb_start); (case b2 => tb_start); (case b3 => tb_start)))
local macro_rules | `(tactic| walk_at "binaryOp Add int float") => `(tactic| (k_here; (with_reducible refine' m_add_if ?hx ?b1 ?b2 ?b3 ?_); (case hx => ktr_rel); (case b1 => tb_start); (case b2 => tb_start); (case b3 => tb_start)))
local macro_rules | `(tactic| walk_at "binaryOp Sub float int") => `(tactic| (k_here; (with_reducible refine' m_sub_fi ?hx ?b1 ?b2 ?b3 ?_); (case hx => ktr_rel); (case b1 => tb_start); (case b2 => tb_start); (case b3 => tb_start)))
local macro_rules | `(tactic| walk_at "binaryOp Add float float") => `(tactic| (k_here; (with_reducible refine' m_add_ff ?hx ?hy ?b1 ?b2 ?b3 ?_); (case hx => ktr_rel); (case hy => ktr_rel); (case b1 => tb_start); (case b2 => tb_start); (case b3 => tb_start)))
local macro_rules | `(tactic| walk_at "binaryOp Sub float float") => `(tactic| (k_here; (with_reducible refine' m_sub_ff ?hx ?hy ?b1 ?b2 ?b3 ?_); (case hx => ktr_rel); (case hy => ktr_rel); (case b1 => tb_start); (case b2 => tb_start); (case b3 => tb_start)))
local macro_rules | `(tactic| walk_at "binaryOp Div int int") => `(tactic| (k_here; (with_reducible refine' m_div_ii ?hA ?b1 ?b2 ?_); (case hA => k_dflt (exact rfl)); (case b1 => tb_start); (case b2 => tb_start); intro z hz))
local macro_rules | `(tactic| walk_at "binaryOp Div float int") => `(tactic| (k_here; (with_reducible refine' m_div_fi ?hA ?hx ?b1 ?b2 ?b3 ?_); (case hA => k_dflt (exact rfl)); (case hx => ktr_rel); (case b1 => tb_start); (case b2 => tb_start); (case b3 => tb_start); intro z hz))
local macro_rules | `(tactic| walk_at "binaryOp Div float float") => `(tactic| (k_here; (with_reducible refine' m_div_ff ?hA ?hx ?hy ?b1 ?b2 ?b3 ?_); (case hA => k_dflt (exact rfl)); (case hx => ktr_rel); (case hy => ktr_rel); (case b1 => tb_start); (case b2 => tb_start); (case b3 => tb_start); intro z hz))
local macro_rules | `(tactic| walk_at "binaryOp Mod float int") => `(tactic| (k_here; (with_reducible refine' m_mod_fi ?hA ?hx ?b1 ?b2 ?b3 ?_); (case hA => k_dflt (exact rfl)); (case hx => ktr_rel); (case b1 => tb_start); (case b2 => tb_start); (case b3 => tb_start)))
local macro_rules | `(tactic| walk_at "call builtin:math.floor") => `(tactic| (k_here; (with_reducible show wpAny _ _ (call _ [Value.float _ _]) _ _ _); first
  | ((with_reducible refine' m_floor_Q ?hA ?hq ?b1 ?_); (case hA => k_dflt (exact rfl)); (case hq => with_reducible assumption); (case b1 => tb_start))
  | ((with_reducible refine' m_floor ?hA ?hx ?b1 ?_); (case hA => k_dflt (exact rfl)); (case hx => ktr_rel); (case b1 => tb_start))))
local macro_rules | `(tactic| walk_at "call builtin:math.ceil") => `(tactic| (k_here; (with_reducible show wpAny _ _ (call _ [Value.float _ _]) _ _ _); first
  | ((with_reducible refine' m_ceil_Q ?hA ?hq ?b1 ?_); (case hA => k_dflt (exact rfl)); (case hq => with_reducible assumption); (case b1 => tb_start))
  | ((with_reducible refine' m_ceil ?hA ?hx ?b1 ?_); (case hA => k_dflt (exact rfl)); (case hx => ktr_rel); (case b1 => tb_start))))
local macro_rules | `(tactic| walk_at "call type:int") => `(tactic| (k_here; (with_reducible show wpAny _ _ (call _ [Value.float _ _]) _ _ _); (with_reducible refine' m_int ?hA ?hx ?b1 ?b2 ?_); (case hA => k_dflt (exact rfl)); (case hx => ktr_rel); (case b1 => tb_start); (case b2 => tb_start)))
local macro_rules | `(tactic| walk_at "compareOp Gt float float") => `(tactic| (k_here; (with_reducible refine' m_gt_ff ?hx ?hy ?b1 ?b2 ?_); (case hx => ktr_rel); (case hy => ktr_rel); (case b1 => tb_start); (case b2 => tb_start)))
local macro_rules | `(tactic| walk_at "compareOp Lt float float") => `(tactic| (k_here; (with_reducible refine' m_lt_ff ?hx ?hy ?b1 ?b2 ?_); (case hx => ktr_rel); (case hy => ktr_rel); (case b1 => tb_start); (case b2 => tb_start)))
local macro_rules | `(tactic| walk_at "compareOp GtE float float") => `(tactic| (k_here; (with_reducible refine' m_ge_ff ?hx ?hy ?b1 ?b2 ?_); (case hx => ktr_rel); (case hy => ktr_rel); (case b1 => tb_start); (case b2 => tb_start)))
local macro_rules | `(tactic| walk_at "compareOp Lt float int") => `(tactic| (k_here; (with_reducible refine' m_lt_fi ?hx ?b1 ?_); (case hx => ktr_rel); (case b1 => tb_start)))
local macro_rules | `(tactic| walk_at "compareOp Eq float int") => `(tactic| (k_here; (with_reducible refine' m_eq_fi ?hx ?b1 ?_); (case hx => ktr_rel); (case b1 => tb_start)))
local macro_rules | `(tactic| walk_at "compareOp NotEq float int") => `(tactic| (k_here; (with_reducible refine' m_ne_fi ?hx ?b1 ?_); (case hx => ktr_rel); (case b1 => tb_start)))
local macro_rules | `(tactic| walk_at "UnrEnd") => `(tactic| (refine' UnrEnd.intro ?F ?N ?nn ?sub ?off ?_; (case sub => exact fun _ hp => hp); (case F => k_asm); (case N => k_asm); (case off => first | exact off_of (by assumption) | exact offI_of (by assumption)); (try ((refine' ⟨rfl, endF ?e1 ?e2, ?e3⟩); (case e1 => with_unfolding_all rfl); (case e2 => (simp only [accS]; omega)); (case e3 => (intro z h1 h2; simp only [h1, h2, if_false]))))))
local macro_rules | `(tactic| walk_at "binaryOp Mult float int") => `(tactic| (k_here; first
  | ((with_reducible refine' m_mul_fi ?hx ?b1 ?b2 ?b3 ?b4 ?_); (case hx => ktr_rel); (case b1 => tb_start); (case b2 => tb_start); (case b3 => tb_start); (case b4 => tb_start))
  | ((with_reducible refine' m_mul_fi' ?hx ?b1 ?b2 ?b3 ?b4 ?b5 ?_); (case hx => ktr_rel); (case b1 => tb_start); (case b2 => tb_start); (case b3 => tb_start); (case b4 => tb_start); (case b5 => tb_start))))
local macro_rules | `(tactic| walk_at "binaryOp Mult int float") => `(tactic| (k_here; ((with_reducible refine' m_mul_if' ?hx ?b1 ?b2 ?b3 ?b4 ?_); (case hx => ktr_rel); (case b1 => tb_start); (case b2 => tb_start); (case b3 => tb_start); (case b4 => tb_start))))
local macro_rules | `(tactic| walk_at "binaryOp Mult float float") => `(tactic| (k_here; ((with_reducible refine' m_mul_ff ?hx ?hy ?b1 ?b2 ?b3 ?b4 ?_); (case hx => ktr_rel); (case hy => exact lit_num2); (case b1 => tb_start); (case b2 => tb_start); (case b3 => tb_start); (case b4 => tb_start))))
local macro_rules | `(tactic| walk_at "call builtin:divmod") => `(tactic| (k_here; (with_reducible show wpAny _ _ (call (Value.builtin _) [Value.int _ _, Value.int _ _]) _ _ _); (rename Fr _ _ _ _ => dF); (rename News _ _ _ _ => dN); (refine' m_divmod dF dN ?b1 ?b2 ?_; (case b1 => tb_start); (case b2 => tb_start)); intro _ _ _))
set_option maxHeartbeats 8000000
theorem add_it {prog : Program} {w : World} {A : Around} {E : Value → Shared → Prop} {s : Shared} {Q : Value → Shared → Prop} {a : Int} {t : Tok} (h : Q (.int (a + 1) s.toks) { s with toks := s.toks + 1 }) : wpAny (model prog w) A (binaryOp .Add (.int a t) (.bool true)) Q E s := add_int_bool (by simpa using h)
theorem add_if0 {prog : Program} {w : World} {A : Around} {E : Value → Shared → Prop} {s : Shared} {Q : Value → Shared → Prop} {a : Int} {t : Tok} (h : Q (.int a s.toks) { s with toks := s.toks + 1 }) : wpAny (model prog w) A (binaryOp .Add (.int a t) (.bool false)) Q E s := add_int_bool (by simpa using h)
local macro_rules | `(tactic| walk_at "binaryOp Add int bool") => `(tactic| (k_here; first | with_reducible refine' add_it ?_ | with_reducible refine' add_if0 ?_))

local macro_rules | `(tactic| walk_at "call builtin:math.floor") => `(tactic| (k_here; (with_reducible show wpAny _ _ (call _ [Value.float _ _]) _ _ _); ((with_reducible refine' m_floor_Qv ?hA ?hq ?b1 ?_); (case hA => k_dflt (exact rfl)); (case hq => with_reducible assumption); (case b1 => tb_start); intro q9 e9 f9 g9)))
local macro_rules | `(tactic| walk_at "binaryOp Mod float int") => `(tactic| (k_here; (with_reducible refine' m_mod_fiv ?hA ?hx ?b1 ?b2 ?b3 ?_); (case hA => k_dflt (exact rfl)); (case hx => ktr_rel); (case b1 => tb_start); (case b2 => tb_start); (case b3 => tb_start); intro r9 e9 f9 g9))
theorem adj_of {a adj y : Int} (ha : (gl y = true ∧ ((adj = 0 ∧ a < 118) ∨ (adj = 1 ∧ 118 ≤ a))) ∨ (gl y = false ∧ ((adj = 0 ∧ a < 116) ∨ (adj = 2 ∧ 116 ≤ a)))) : adj = if a < 2 * (58 + (if gl y = true then 1 else 0)) then 0 else if gl y = true then 1 else 2 := by
  rcases ha with ⟨h, h2⟩ | ⟨h, h2⟩ <;> rw [h]
  · simp only [if_true]
    split <;> omega
  · simp only [Bool.false_eq_true, if_false]
    split <;> omega
theorem isDate_of {N y m D e : Int} (h1 : 1 ≤ m ∧ m ≤ 12) (h2 : 1 ≤ D ∧ D ≤ dim y m) (h3 : gj y m D = N) (he : e = D) (hy : -6000 ≤ y ∧ y ≤ 90000000) : IsDate N y m e := by
  subst he
  exact ⟨h1, h2, h3, hy⟩
theorem c_gjH {prog : Program} {w : World} {p : Program} {loose : List Str} {mean : ExcName → Option Value} {mg mb : Str → Option Value} {news : List (Addr × Obj)}
    {dp un : Nat} {gd : Option (List Code)} {cn : Str} {cs : Scope} {a : Addr} {ccd : Value} {cl : List (Str × Addr)} {outer : List Env} {A₀ : Around} {base h₀ : Heap} {L : Addr} {m' : Str → Option Value} {s : Shared} {Q E : Value → Shared → Prop}
    {y H : Int} {t u v : Tok} (B : Below A₀ base outer h₀) (F : Fr h₀ L s.heap m') (X : (hd.heap_39 w.params).In h₀) (Ne : News h₀ L s.heap news) (T : Top p loose mean mg mb h₀) (hk : cs.kind = .function)
    (hH : 2 * gj y 1 1 = H) (hpre : -100000 ≤ y ∧ y ≤ 100000000) (hd : dp + 3 < recursionLimit) (hu : un + 8 * 3 < cLine)
    (hret : 2 * gj y 1 1 = H → ∀ (t : Tok) (h' : Heap) (tk' : Nat), Fr h₀ L h' m' → News h₀ L h' news → Q (.float (hf (H + 1)) t) { s with heap := h', toks := tk' }) :
    wpAny (model prog w) (ktrTop dp un gd cn cs L a ccd cl outer) (call (.ref 64) [.int y t, .int 1 u, .int 1 v]) Q E s := by
  subst hH
  have := dim_bound y 1
  exact c_gj y 1 1 t u v B F X Ne T hk ⟨hpre, by omega, by omega⟩ hd hu (hret rfl)
theorem c_gjM {prog : Program} {w : World} {p : Program} {loose : List Str} {mean : ExcName → Option Value} {mg mb : Str → Option Value} {news : List (Addr × Obj)}
    {dp un : Nat} {gd : Option (List Code)} {cn : Str} {cs : Scope} {a : Addr} {ccd : Value} {cl : List (Str × Addr)} {outer : List Env} {A₀ : Around} {base h₀ : Heap} {L : Addr} {m' : Str → Option Value} {s : Shared} {Q E : Value → Shared → Prop}
    {y N H adj m : Int} {t u v : Tok} (B : Below A₀ base outer h₀) (F : Fr h₀ L s.heap m') (X : (hd.heap_39 w.params).In h₀) (Ne : News h₀ L s.heap news) (T : Top p loose mean mg mb h₀) (hk : cs.kind = .function)
    (hH : 2 * gj y 1 1 = H) (h0 : 0 ≤ 2 * N - H ∧ 2 * N - H ≤ 730) (hl : 2 * N - H = 730 → gl y = true)
    (ha : (gl y = true ∧ ((adj = 0 ∧ 2 * N - H < 118) ∨ (adj = 1 ∧ 118 ≤ 2 * N - H))) ∨ (gl y = false ∧ ((adj = 0 ∧ 2 * N - H < 116) ∨ (adj = 2 ∧ 116 ≤ 2 * N - H))))
    (hm : m = ((2 * ((2 * N + 1 - 1) / 2) + 1 - (H + 1) + 2 * adj) * 12 + 2 * 373) / (2 * 367)) (hy : -100000 ≤ y ∧ y ≤ 100000000) (hd : dp + 3 < recursionLimit) (hu : un + 8 * 3 < cLine)
    (hret : ∀ D, (1 ≤ m ∧ m ≤ 12) → (1 ≤ D ∧ D ≤ dim y m) → gj y m D = N → 0 ≤ D ∧ D ≤ 31 → ∀ (t : Tok) (h' : Heap) (tk' : Nat), Fr h₀ L h' m' → News h₀ L h' news → Q (.float (hf (2 * (N - D) + 3)) t) { s with heap := h', toks := tk' }) :
    wpAny (model prog w) (ktrTop dp un gd cn cs L a ccd cl outer) (call (.ref 64) [.int y t, .int m u, .int 1 v]) Q E s := by
  obtain ⟨D, h1, h2, h3, h4⟩ := mon_day (m := m) hH h0 hl (adj_of ha) (by omega)
  have hb := dim_bound y m
  refine c_gj y m 1 t u v B F X Ne T hk ⟨hy, h1, by omega⟩ hd hu ?_
  rw [h4]
  exact hret D h1 h2 h3 (by omega)
theorem c_isleapB {prog : Program} {w : World} {p : Program} {loose : List Str} {mean : ExcName → Option Value} {mg mb : Str → Option Value} {news : List (Addr × Obj)}
    {dp un : Nat} {gd : Option (List Code)} {cn : Str} {cs : Scope} {a : Addr} {ccd : Value} {cl : List (Str × Addr)} {outer : List Env} {A₀ : Around} {base h₀ : Heap} {L : Addr} {m' : Str → Option Value} {s : Shared} {Q E : Value → Shared → Prop}
    {y : Int} {t : Tok} (B : Below A₀ base outer h₀) (F : Fr h₀ L s.heap m') (X : (hd.heap_39 w.params).In h₀) (Ne : News h₀ L s.heap news) (T : Top p loose mean mg mb h₀) (hk : cs.kind = .function) (hd : dp + 1 < recursionLimit) (hu : un + 8 * 1 < cLine)
    (h1 : gl y = true → ∀ (h' : Heap) (tk' : Nat), Fr h₀ L h' m' → News h₀ L h' news → Q (.bool true) { s with heap := h', toks := tk' })
    (h2 : gl y = false → ∀ (h' : Heap) (tk' : Nat), Fr h₀ L h' m' → News h₀ L h' news → Q (.bool false) { s with heap := h', toks := tk' }) :
    wpAny (model prog w) (ktrTop dp un gd cn cs L a ccd cl outer) (call (.ref 50) [.int y t]) Q E s := by
  refine c_isleap y t B F X Ne T hk trivial hd hu ?_
  intro _ h' tk' F' N'
  cases hg : gl y with
  | true => exact h1 hg h' tk' F' N'
  | false => exact h2 hg h' tk' F' N'
local macro_rules | `(tactic| walk_at "call ref") => `(tactic| (k_here; (with_reducible show wpAny _ _ (call (Value.ref 50) _) _ _ _); k_dflt (refine' c_isleapB ?k1 ?k2 ?k3 ?k4 ?k5 ?kK ?kd ?ku ?_ ?_; (case k1 => k_asm); (case k2 => k_asm); (case k3 => k_asm); (case k4 => k_asm); (case k5 => k_asm); (case kK => first | exact rfl | assumption); (case kd => ktr_room); (case ku => ktr_units)); (intro hg9 h9 tk9 F9 N9; (try dsimp only); (try k_fold))))
local macro_rules | `(tactic| walk_at "call ref") => `(tactic| (k_here; (with_reducible show wpAny _ _ (call (Value.ref 64) _) _ _ _); k_dflt (first
  | (refine' c_gjH ?k1 ?k2 ?k3 ?k4 ?k5 ?kK (jan_a ?hX ?h1 ?h2 ?h3 ?h4 ?h5 ?h6 ?h7 ?hc ?hy ?hY) ?kp ?kd ?ku ?_; (case hY => exact rfl); (case h7 => with_reducible assumption); (case h5 => with_reducible assumption); (case h3 => with_reducible assumption); (case h1 => with_reducible assumption); (case h2 => with_reducible assumption); (case h4 => with_reducible assumption); (case h6 => with_reducible assumption); (case hX => exact rfl);  (case hc => omega); (case hy => omega))
  | (refine' c_gjH ?k1 ?k2 ?k3 ?k4 ?k5 ?kK (jan_b ?hX ?h1 ?h2 ?h3 ?h4 ?h5 ?h6 ?h7 ?hc ?hY) ?kp ?kd ?ku ?_; (case hY => exact rfl); (case h7 => with_reducible assumption); (case h5 => with_reducible assumption); (case h3 => with_reducible assumption); (case h1 => with_reducible assumption); (case h2 => with_reducible assumption); (case h4 => with_reducible assumption); (case h6 => with_reducible assumption); (case hX => exact rfl);  (case hc => omega))); (case k1 => k_asm); (case k2 => k_asm); (case k3 => k_asm); (case k4 => k_asm); (case k5 => k_asm); (case kK => first | exact rfl | assumption); (case kp => omega); (case kd => ktr_room); (case ku => ktr_units); intro hH9 t9 h9 tk9 F9 N9; (try dsimp only); (try k_fold)))
local macro_rules | `(tactic| walk_at "call ref") => `(tactic| (k_here; (with_reducible show wpAny _ _ (call (Value.ref 64) _) _ _ _); (k_dflt (refine' c_gjM ?k1 ?k2 ?k3 ?k4 ?k5 ?kK ?hH ?h0 ?hl ?ha ?hm ?kp ?kd ?ku ?_; (case k1 => k_asm); (case k2 => k_asm); (case k3 => k_asm); (case k4 => k_asm); (case k5 => k_asm); (case kK => first | exact rfl | assumption); (case hH => with_reducible assumption); (case hm => with_reducible assumption)); (case h0 => omega); (case hl => (intro e; first | assumption | (exfalso; omega) | exact jan_b_leap rfl (by with_reducible assumption) (by with_reducible assumption) (by with_reducible assumption) (by with_reducible assumption) (by with_reducible assumption) (by with_reducible assumption) (by omega) rfl)); (case ha => first | exact Or.inl ⟨by assumption, Or.inl ⟨rfl, by omega⟩⟩ | exact Or.inl ⟨by assumption, Or.inr ⟨rfl, by omega⟩⟩ | exact Or.inr ⟨by assumption, Or.inl ⟨rfl, by omega⟩⟩ | exact Or.inr ⟨by assumption, Or.inr ⟨rfl, by omega⟩⟩); (case kp => omega); (case kd => ktr_room); (case ku => ktr_units); intro D9 hD1 hD2 hD3 hD4 t9 h9 tk9 F9 N9; (try dsimp only); (try k_fold))))
theorem c_fg (N : Int) (t : Tok) : ClT 71 4 (300000 ≤ N ∧ N ≤ 32000000000) [.float (hf (2 * N + 1)) t] (fun y m d => IsDate N y m d) := by
  unfold ClT
  intros
  rename_i hpre _ _ hret
  refine wpAny_call ?_
  k_dflt cell_enter
  k_steps
  all_goals (refine' hret _ _ _ ?P _ _ _ _ _ _ ?F ?N; (case N => k_asm); (case F => k_asm); (case P => (refine' isDate_of ?a1 ?a2 ?a3 ?a4 ?a5; (case a3 => with_reducible assumption); (case a1 => assumption); (case a2 => assumption); (case a4 => omega); (case a5 => omega))))
end Mine
end
section
open PySem PySem.W PyProof.Rows
set_option maxRecDepth 100000
namespace Mine
theorem resetMW6 : True := by
  w_top off
  k_with_none
  trivial
local macro_rules | `(tactic| ktr_rel) => `(tactic| first | (with_reducible exact rfl) | exact lit_g | exact lit_h | exact lit_i | exact lit_half | exact lit_295 | exact lit_num | exact lit_den)
local macro_rules | `(tactic| tb_start) => `(tactic| first | decide | omega)
local macro_rules | `(tactic| walk_at "binaryOp Mod int int") => `(tactic| (k_here; (with_reducible refine' m_mod ?b1 ?_); (case b1 => tb_start)))
local macro_rules | `(tactic| walk_at "binaryOp FloorDiv int int") => `(tactic| (k_here; (with_reducible refine' m_fdiv ?b1 ?b2 ?_); (case b1 => tb_start); (case b2 => tb_start)))
local macro_rules | `(tactic| walk_at "binaryOp Add float int") => `(tactic| (k_here; (with_reducible refine' m_add_fi ?hx ?b1 ?b2 ?b3 ?_); (case hx => ktr_rel); (case b1 => tb_start); (case b2 => tb_start); (case b3 => tb_start)))
local macro_rules | `(tactic| walk_at "inplaceOp Add float int") => `(tactic| (k_here; (with_reducible refine' m_iadd_fi ?hA ?hx ?b1 ?b2 ?b3 ?_); (case hA => k_dflt (exact rfl)); (case hx => ktr_rel); (case b1 => tb_start); (case b2 => tb_start); (case b3 => tb_start)))
local macro_rules | `(tactic| walk_at "binaryOp Add int float") => `(tactic| (k_here; (with_reducible refine' m_add_if ?hx ?b1 ?b2 ?b3 ?_); (case hx => ktr_rel); (case b1 => tb_start); (case b2 => tb_start); (case b3 => tb_start)))
local macro_rules | `(tactic| walk_at "binaryOp Sub float int") => `(tactic| (k_here; (with_reducible refine' m_sub_fi ?hx ?b1 ?b2 ?b3 ?_); (case hx => ktr_rel); (case b1 => tb_start); (case b2 => tb_start); (case b3 => tb_start)))
local macro_rules | `(tactic| walk_at "binaryOp Add float float") => `(tactic| (k_here; (with_reducible refine' m_add_ff ?hx ?hy ?b1 ?b2 ?b3 ?_); (case hx => ktr_rel); (case hy => ktr_rel); (case b1 => tb_start); (case b2 => tb_start); (case b3 => tb_start)))
local macro_rules | `(tactic| walk_at "binaryOp Sub float float") => `(tactic| (k_here; (with_reducible refine' m_sub_ff ?hx ?hy ?b1 ?b2 ?b3 ?_); (case hx => ktr_rel); (case hy => ktr_rel); (case b1 => tb_start); (case b2 => tb_start); (case b3 => tb_start)))
local macro_rules | `(tactic| walk_at "binaryOp Div int int") => `(tactic| (k_here; (with_reducible refine' m_div_ii ?hA ?b1 ?b2 ?_); (case hA => k_dflt (exact rfl)); (case b1 => tb_start); (case b2 => tb_start); intro z hz))
local macro_rules | `(tactic| walk_at "binaryOp Div float int") => `(tactic| (k_here; (with_reducible refine' m_div_fi ?hA ?hx ?b1 ?b2 ?b3 ?_); (case hA => k_dflt (exact rfl)); (case hx => ktr_rel); (case b1 => tb_start); (case b2 => tb_start); (case b3 => tb_start); intro z hz))
local macro_rules | `(tactic| walk_at "binaryOp Div float float") => `(tactic| (k_here; (with_reducible refine' m_div_ff ?hA ?hx ?hy ?b1 ?b2 ?b3 ?_); (case hA => k_dflt (exact rfl)); (case hx => ktr_rel); (case hy => ktr_rel); (case b1 => tb_start); (case b2 => tb_start); (case b3 => tb_start); intro z hz))
local macro_rules | `(tactic| walk_at "binaryOp Mod float int") => `(tactic| (k_here; (with_reducible refine' m_mod_fi ?hA ?hx ?b1 ?b2 ?b3 ?_); (case hA => k_dflt (exact rfl)); (case hx => ktr_rel); (case b1 => tb_start); (case b2 => tb_start); (case b3 => tb_start)))
local macro_rules | `(tactic| walk_at "call builtin:math.floor") => `(tactic| (k_here; (with_reducible show wpAny _ _ (call _ [Value.float _ _]) _ _ _); first
  | ((with_reducible refine' m_floor_Q ?hA ?hq ?b1 ?_); (case hA => k_dflt (exact rfl)); (case hq => with_reducible assumption); (case b1 => tb_start))
  | ((with_reducible refine' m_floor ?hA ?hx ?b1 ?_); (case hA => k_dflt (exact rfl)); (case hx => ktr_rel); (case b1 => tb_start))))
local macro_rules | `(tactic| walk_at "call builtin:math.ceil") => `(tactic| (k_here; (with_reducible show wpAny _ _ (call _ [Value.float _ _]) _ _ _); first
  | ((with_reducible refine' m_ceil_Q ?hA ?hq ?b1 ?_); (case hA => k_dflt (exact rfl)); (case hq => with_reducible assumption); (case b1 => tb_start))
  | ((with_reducible refine' m_ceil ?hA ?hx ?b1 ?_); (case hA => k_dflt (exact rfl)); (case hx => ktr_rel); (case b1 => tb_start))))
local macro_rules | `(tactic| walk_at "call type:int") => `(tactic| (k_here; (with_reducible show wpAny _ _ (call _ [Value.float _ _]) _ _ _); (with_reducible refine' m_int ?hA ?hx ?b1 ?b2 ?_); (case hA => k_dflt (exact rfl)); (case hx => ktr_rel); (case b1 => tb_start); (case b2 => tb_start)))
local macro_rules | `(tactic| walk_at "compareOp Gt float float") => `(tactic| (k_here; (with_reducible refine' m_gt_ff ?hx ?hy ?b1 ?b2 ?_); (case hx => ktr_rel); (case hy => ktr_rel); (case b1 => tb_start); (case b2 => tb_start)))
local macro_rules | `(tactic| walk_at "compareOp Lt float float") => `(tactic| (k_here; (with_reducible refine' m_lt_ff ?hx ?hy ?b1 ?b2 ?_); (case hx => ktr_rel); (case hy => ktr_rel); (case b1 => tb_start); (case b2 => tb_start)))
local macro_rules | `(tactic| walk_at "compareOp GtE float float") => `(tactic| (k_here; (with_reducible refine' m_ge_ff ?hx ?hy ?b1 ?b2 ?_); (case hx => ktr_rel); (case hy => ktr_rel); (case b1 => tb_start); (case b2 => tb_start)))
local macro_rules | `(tactic| walk_at "compareOp Lt float int") => `(tactic| (k_here; (with_reducible refine' m_lt_fi ?hx ?b1 ?_); (case hx => ktr_rel); (case b1 => tb_start)))
local macro_rules | `(tactic| walk_at "compareOp Eq float int") => `(tactic| (k_here; (with_reducible refine' m_eq_fi ?hx ?b1 ?_); (case hx => ktr_rel); (case b1 => tb_start)))
local macro_rules | `(tactic| walk_at "compareOp NotEq float int") => `(tactic| (k_here; (with_reducible refine' m_ne_fi ?hx ?b1 ?_); (case hx => ktr_rel); (case b1 => tb_start)))
local macro_rules | `(tactic| walk_at "UnrEnd") => `(tactic| (refine' UnrEnd.intro ?F ?N ?nn ?sub ?off ?_; (case sub => exact fun _ hp => hp); (case F => k_asm); (case N => k_asm); (case off => first | exact off_of (by assumption) | exact offI_of (by assumption)); (try ((refine' ⟨rfl, endF ?e1 ?e2, ?e3⟩); (case e1 => with_unfolding_all rfl); (case e2 => (simp only [accS]; omega)); (case e3 => (intro z h1 h2; simp only [h1, h2, if_false]))))))
local macro_rules | `(tactic| walk_at "binaryOp Mult float int") => `(tactic| (k_here; first
  | ((with_reducible refine' m_mul_fi ?hx ?b1 ?b2 ?b3 ?b4 ?_); (case hx => ktr_rel); (case b1 => tb_start); (case b2 => tb_start); (case b3 => tb_start); (case b4 => tb_start))
  | ((with_reducible refine' m_mul_fi' ?hx ?b1 ?b2 ?b3 ?b4 ?b5 ?_); (case hx => ktr_rel); (case b1 => tb_start); (case b2 => tb_start); (case b3 => tb_start); (case b4 => tb_start); (case b5 => tb_start))))
local macro_rules | `(tactic| walk_at "binaryOp Mult int float") => `(tactic| (k_here; ((with_reducible refine' m_mul_if' ?hx ?b1 ?b2 ?b3 ?b4 ?_); (case hx => ktr_rel); (case b1 => tb_start); (case b2 => tb_start); (case b3 => tb_start); (case b4 => tb_start))))
local macro_rules | `(tactic| walk_at "binaryOp Mult float float") => `(tactic| (k_here; ((with_reducible refine' m_mul_ff ?hx ?hy ?b1 ?b2 ?b3 ?b4 ?_); (case hx => ktr_rel); (case hy => exact lit_num2); (case b1 => tb_start); (case b2 => tb_start); (case b3 => tb_start); (case b4 => tb_start))))
local macro_rules | `(tactic| walk_at "call builtin:divmod") => `(tactic| (k_here; (with_reducible show wpAny _ _ (call (Value.builtin _) [Value.int _ _, Value.int _ _]) _ _ _); (rename Fr _ _ _ _ => dF); (rename News _ _ _ _ => dN); (refine' m_divmod dF dN ?b1 ?b2 ?_; (case b1 => tb_start); (case b2 => tb_start)); intro _ _ _))
set_option maxHeartbeats 8000000
theorem c_ij (y m d : Int) (t u v : Tok) : Cl 148 1 ((-100000 ≤ y ∧ y ≤ 100000000) ∧ (1 ≤ m ∧ m ≤ 12) ∧ 0 ≤ d ∧ d ≤ 31) [.int y t, .int m u, .int d v] (fun t => .float (hf (2 * ij y m d + 1)) t) := by
  unfold Cl
  intros
  rename_i hpre _ _ hret
  dsimp only at hret
  refine wpAny_call ?_
  k_dflt cell_enter
  k_steps
  all_goals (refine retF hret (by k_asm) (by k_asm) ?_)
  all_goals (unfold ij; omega)
theorem c_ijJ {prog : Program} {w : World} {p : Program} {loose : List Str} {mean : ExcName → Option Value} {mg mb : Str → Option Value} {news : List (Addr × Obj)}
    {dp un : Nat} {gd : Option (List Code)} {cn : Str} {cs : Scope} {a : Addr} {ccd : Value} {cl : List (Str × Addr)} {outer : List Env} {A₀ : Around} {base h₀ : Heap} {L : Addr} {m' : Str → Option Value} {s : Shared} {Q E : Value → Shared → Prop}
    {y m d : Int} {t u v : Tok} (B : Below A₀ base outer h₀) (F : Fr h₀ L s.heap m') (X : (hd.heap_39 w.params).In h₀) (Ne : News h₀ L s.heap news) (T : Top p loose mean mg mb h₀) (hk : cs.kind = .function)
    (hpre : (-100000 ≤ y ∧ y ≤ 100000000) ∧ (1 ≤ m ∧ m ≤ 12) ∧ 0 ≤ d ∧ d ≤ 31) (hd : dp + 1 < recursionLimit) (hu : un + 8 * 1 < cLine)
    (hret : ∀ J, J = ij y 1 1 → J = 1948439 + (y - 1) * 354 + (3 + 11 * y) / 30 → ∀ (t : Tok) (h' : Heap) (tk' : Nat), Fr h₀ L h' m' → News h₀ L h' news → Q (.float (hf (2 * (J - (-(59 * (m - 1)) / 2) + d - 1) + 1)) t) { s with heap := h', toks := tk' }) :
    wpAny (model prog w) (ktrTop dp un gd cn cs L a ccd cl outer) (call (.ref 148) [.int y t, .int m u, .int d v]) Q E s := by
  refine c_ij y m d t u v B F X Ne T hk hpre hd hu ?_
  rw [imon]
  exact hret _ rfl (ijan y)
local macro_rules | `(tactic| walk_at "call builtin:math.floor") => `(tactic| (k_here; (with_reducible show wpAny _ _ (call _ [Value.float _ _]) _ _ _); ((with_reducible refine' m_floor_Qv ?hA ?hq ?b1 ?_); (case hA => k_dflt (exact rfl)); (case hq => with_reducible assumption); (case b1 => tb_start); intro q9 e9 f9 g9)))
local macro_rules | `(tactic| walk_at "call builtin:math.ceil") => `(tactic| (k_here; (with_reducible show wpAny _ _ (call _ [Value.float _ _]) _ _ _); ((with_reducible refine' m_ceil_Qv ?hA ?hq ?b1 ?_); (case hA => k_dflt (exact rfl)); (case hq => with_reducible assumption); (case b1 => tb_start); intro q9 e9 f9 g9)))
local macro_rules | `(tactic| walk_at "call ref") => `(tactic| (k_here; (with_reducible show wpAny _ _ (call (Value.ref 148) _) _ _ _); k_dflt (refine' c_ijJ ?k1 ?k2 ?k3 ?k4 ?k5 ?kK ?kp ?kd ?ku ?_; (case k1 => k_asm); (case k2 => k_asm); (case k3 => k_asm); (case k4 => k_asm); (case k5 => k_asm); (case kK => first | exact rfl | assumption)); (case kp => omega); (case kd => ktr_room); (case ku => ktr_units); intro J9 hJ1 hJ2 t9 h9 tk9 F9 N9; (try dsimp only); (try k_fold)))
theorem c_fi (N : Int) (t : Tok) : ClT 155 2 (300000 ≤ N ∧ N ≤ 32000000000) [.float (hf (2 * N + 1)) t] (fun y m d => IsIsl N y m d) := by
  unfold ClT
  intros
  rename_i hpre _ _ hret
  refine wpAny_call ?_
  k_dflt cell_enter
  k_steps
  all_goals (refine' hret _ _ _ ?P _ _ _ _ _ _ ?F ?N; (case N => k_asm); (case F => k_asm))
  all_goals exact isIsl_of rfl rfl (by with_reducible assumption) (by with_reducible assumption) (by with_reducible assumption) (by with_reducible assumption) hpre (by with_reducible assumption) (by with_reducible assumption)
end Mine
end
section
open PySem PySem.W PyProof.Rows
set_option maxRecDepth 100000
namespace Mine
theorem resetMW7 : True := by
  w_top off
  k_with_none
  trivial
local macro_rules | `(tactic| ktr_rel) => `(tactic| first | (with_reducible exact rfl) | exact lit_g | exact lit_h | exact lit_i | exact lit_half | exact lit_295 | exact lit_num | exact lit_den)
local macro_rules | `(tactic| tb_start) => `(tactic| first | decide | omega)
local macro_rules | `(tactic| walk_at "binaryOp Mod int int") => `(tactic| (k_here; (with_reducible refine' m_mod ?b1 ?_); (case b1 => tb_start)))
local macro_rules | `(tactic| walk_at "binaryOp FloorDiv int int") => `(tactic| (k_here; (with_reducible refine' m_fdiv ?b1 ?b2 ?_); (case b1 => tb_start); (case b2 => tb_start)))
local macro_rules | `(tactic| walk_at "binaryOp Add float int") => `(tactic| (k_here; (with_reducible refine' m_add_fi ?hx ?b1 ?b2 ?b3 ?_); (case hx => ktr_rel); (case b1 => tb_start); (case b2 => tb_start); (case b3 => tb_start)))
local macro_rules | `(tactic| walk_at "inplaceOp Add float int") => `(tactic| (k_here; (with_reducible refine' m_iadd_fi ?hA ?hx ?b1 ?b2 ?b3 ?_); (case hA => k_dflt (exact rfl)); (case hx => ktr_rel); (case b1 => tb_start); (case b2 => tb_start); (case b3 => tb_start)))
local macro_rules | `(tactic| walk_at "binaryOp Add int float") => `(tactic| (k_here; (with_reducible refine' m_add_if ?hx ?b1 ?b2 ?b3 ?_); (case hx => ktr_rel); (case b1 => tb_start); (case b2 => tb_start); (case b3 => tb_start)))
local macro_rules | `(tactic| walk_at "binaryOp Sub float int") => `(tactic| (k_here; (with_reducible refine' m_sub_fi ?hx ?b1 ?b2 ?b3 ?_); (case hx => ktr_rel); (case b1 => tb_start); (case b2 => tb_start); (case b3 => tb_start)))
local macro_rules | `(tactic| walk_at "binaryOp Add float float") => `(tactic| (k_here; (with_reducible refine' m_add_ff ?hx ?hy ?b1 ?b2 ?b3 ?_); (case hx => ktr_rel); (case hy => ktr_rel); (case b1 => tb_start); (case b2 => tb_start); (case b3 => tb_start)))
local macro_rules | `(tactic| walk_at "binaryOp Sub float float") => `(tactic| (k_here; (with_reducible refine' m_sub_ff ?hx ?hy ?b1 ?b2 ?b3 ?_); (case hx => ktr_rel); (case hy => ktr_rel); (case b1 => tb_start); (case b2 => tb_start); (case b3 => tb_start)))
local macro_rules | `(tactic| walk_at "binaryOp Div int int") => `(tactic| (k_here; (with_reducible refine' m_div_ii ?hA ?b1 ?b2 ?_); (case hA => k_dflt (exact rfl)); (case b1 => tb_start); (case b2 => tb_start); intro z hz))
local macro_rules | `(tactic| walk_at "binaryOp Div float int") => `(tactic| (k_here; (with_reducible refine' m_div_fi ?hA ?hx ?b1 ?b2 ?b3 ?_); (case hA => k_dflt (exact rfl)); (case hx => ktr_rel); (case b1 => tb_start); (case b2 => tb_start); (case b3 => tb_start); intro z hz))
local macro_rules | `(tactic| walk_at "binaryOp Div float float") => `(tactic| (k_here; (with_reducible refine' m_div_ff ?hA ?hx ?hy ?b1 ?b2 ?b3 ?_); (case hA => k_dflt (exact rfl)); (case hx => ktr_rel); (case hy => ktr_rel); (case b1 => tb_start); (case b2 => tb_start); (case b3 => tb_start); intro z hz))
local macro_rules | `(tactic| walk_at "binaryOp Mod float int") => `(tactic| (k_here; (with_reducible refine' m_mod_fi ?hA ?hx ?b1 ?b2 ?b3 ?_); (case hA => k_dflt (exact rfl)); (case hx => ktr_rel); (case b1 => tb_start); (case b2 => tb_start); (case b3 => tb_start)))
local macro_rules | `(tactic| walk_at "call builtin:math.floor") => `(tactic| (k_here; (with_reducible show wpAny _ _ (call _ [Value.float _ _]) _ _ _); first
  | ((with_reducible refine' m_floor_Q ?hA ?hq ?b1 ?_); (case hA => k_dflt (exact rfl)); (case hq => with_reducible assumption); (case b1 => tb_start))
  | ((with_reducible refine' m_floor ?hA ?hx ?b1 ?_); (case hA => k_dflt (exact rfl)); (case hx => ktr_rel); (case b1 => tb_start))))
local macro_rules | `(tactic| walk_at "call builtin:math.ceil") => `(tactic| (k_here; (with_reducible show wpAny _ _ (call _ [Value.float _ _]) _ _ _); first
  | ((with_reducible refine' m_ceil_Q ?hA ?hq ?b1 ?_); (case hA => k_dflt (exact rfl)); (case hq => with_reducible assumption); (case b1 => tb_start))
  | ((with_reducible refine' m_ceil ?hA ?hx ?b1 ?_); (case hA => k_dflt (exact rfl)); (case hx => ktr_rel); (case b1 => tb_start))))
local macro_rules | `(tactic| walk_at "call type:int") => `(tactic| (k_here; (with_reducible show wpAny _ _ (call _ [Value.float _ _]) _ _ _); (with_reducible refine' m_int ?hA ?hx ?b1 ?b2 ?_); (case hA => k_dflt (exact rfl)); (case hx => ktr_rel); (case b1 => tb_start); (case b2 => tb_start)))
local macro_rules | `(tactic| walk_at "compareOp Gt float float") => `(tactic| (k_here; (with_reducible refine' m_gt_ff ?hx ?hy ?b1 ?b2 ?_); (case hx => ktr_rel); (case hy => ktr_rel); (case b1 => tb_start); (case b2 => tb_start)))
local macro_rules | `(tactic| walk_at "compareOp Lt float float") => `(tactic| (k_here; (with_reducible refine' m_lt_ff ?hx ?hy ?b1 ?b2 ?_); (case hx => ktr_rel); (case hy => ktr_rel); (case b1 => tb_start); (case b2 => tb_start)))
local macro_rules | `(tactic| walk_at "compareOp GtE float float") => `(tactic| (k_here; (with_reducible refine' m_ge_ff ?hx ?hy ?b1 ?b2 ?_); (case hx => ktr_rel); (case hy => ktr_rel); (case b1 => tb_start); (case b2 => tb_start)))
local macro_rules | `(tactic| walk_at "compareOp Lt float int") => `(tactic| (k_here; (with_reducible refine' m_lt_fi ?hx ?b1 ?_); (case hx => ktr_rel); (case b1 => tb_start)))
local macro_rules | `(tactic| walk_at "compareOp Eq float int") => `(tactic| (k_here; (with_reducible refine' m_eq_fi ?hx ?b1 ?_); (case hx => ktr_rel); (case b1 => tb_start)))
local macro_rules | `(tactic| walk_at "compareOp NotEq float int") => `(tactic| (k_here; (with_reducible refine' m_ne_fi ?hx ?b1 ?_); (case hx => ktr_rel); (case b1 => tb_start)))
local macro_rules | `(tactic| walk_at "UnrEnd") => `(tactic| (refine' UnrEnd.intro ?F ?N ?nn ?sub ?off ?_; (case sub => exact fun _ hp => hp); (case F => k_asm); (case N => k_asm); (case off => first | exact off_of (by assumption) | exact offI_of (by assumption)); (try ((refine' ⟨rfl, endF ?e1 ?e2, ?e3⟩); (case e1 => with_unfolding_all rfl); (case e2 => (simp only [accS]; omega)); (case e3 => (intro z h1 h2; simp only [h1, h2, if_false]))))))
local macro_rules | `(tactic| walk_at "binaryOp Mult float int") => `(tactic| (k_here; first
  | ((with_reducible refine' m_mul_fi ?hx ?b1 ?b2 ?b3 ?b4 ?_); (case hx => ktr_rel); (case b1 => tb_start); (case b2 => tb_start); (case b3 => tb_start); (case b4 => tb_start))
  | ((with_reducible refine' m_mul_fi' ?hx ?b1 ?b2 ?b3 ?b4 ?b5 ?_); (case hx => ktr_rel); (case b1 => tb_start); (case b2 => tb_start); (case b3 => tb_start); (case b4 => tb_start); (case b5 => tb_start))))
local macro_rules | `(tactic| walk_at "binaryOp Mult int float") => `(tactic| (k_here; ((with_reducible refine' m_mul_if' ?hx ?b1 ?b2 ?b3 ?b4 ?_); (case hx => ktr_rel); (case b1 => tb_start); (case b2 => tb_start); (case b3 => tb_start); (case b4 => tb_start))))
local macro_rules | `(tactic| walk_at "binaryOp Mult float float") => `(tactic| (k_here; ((with_reducible refine' m_mul_ff ?hx ?hy ?b1 ?b2 ?b3 ?b4 ?_); (case hx => ktr_rel); (case hy => exact lit_num2); (case b1 => tb_start); (case b2 => tb_start); (case b3 => tb_start); (case b4 => tb_start))))
local macro_rules | `(tactic| walk_at "call builtin:divmod") => `(tactic| (k_here; (with_reducible show wpAny _ _ (call (Value.builtin _) [Value.int _ _, Value.int _ _]) _ _ _); (rename Fr _ _ _ _ => dF); (rename News _ _ _ _ => dN); (refine' m_divmod dF dN ?b1 ?b2 ?_; (case b1 => tb_start); (case b2 => tb_start)); intro _ _ _))
set_option maxHeartbeats 8000000
local macro_rules | `(tactic| walk_at "call ref") => `(tactic| (k_here; (with_reducible show wpAny _ _ (call (Value.ref 127) _) _ _ _); k_dflt (refine' c_tojd _ _ _ _ _ _ ?k1 ?k2 ?k3 ?k4 ?k5 ?kK ?kp ?kd ?ku ?_; (case k1 => k_asm); (case k2 => k_asm); (case k3 => k_asm); (case k4 => k_asm); (case k5 => k_asm); (case kK => first | exact rfl | assumption); (case kp => first | (with_reducible exact True.intro) | omega | (with_reducible assumption)); (case kd => ktr_room); (case ku => ktr_units); intro t9 h9 tk9 F9 N9; (try dsimp only); (try k_fold))))
local macro_rules | `(tactic| walk_at "call ref") => `(tactic| (k_here; (with_reducible show wpAny _ _ (call (Value.ref 71) _) _ _ _); k_dflt (refine' c_fg _ _ ?k1 ?k2 ?k3 ?k4 ?k5 ?kK ?kp ?kd ?ku ?_; (case k1 => k_asm); (case k2 => k_asm); (case k3 => k_asm); (case k4 => k_asm); (case k5 => k_asm); (case kK => first | exact rfl | assumption); (case kp => first | (with_reducible exact True.intro) | omega | (with_reducible assumption)); (case kd => ktr_room); (case ku => ktr_units); intro y9 m9 d9 hP9 t91 t92 t93 q9 h9 tk9 F9 N9; (try dsimp only); (try k_fold))))
local macro_rules | `(tactic| walk_at "call ref") => `(tactic| (k_here; (with_reducible show wpAny _ _ (call (Value.ref 64) _) _ _ _); k_dflt (refine' c_gj _ _ _ _ _ _ ?k1 ?k2 ?k3 ?k4 ?k5 ?kK ?kp ?kd ?ku ?_; (case k1 => k_asm); (case k2 => k_asm); (case k3 => k_asm); (case k4 => k_asm); (case k5 => k_asm); (case kK => first | exact rfl | assumption); (case kp => first | (with_reducible exact True.intro) | omega | (with_reducible assumption)); (case kd => ktr_room); (case ku => ktr_units); intro t9 h9 tk9 F9 N9; (try dsimp only); (try k_fold))))
local macro_rules | `(tactic| walk_at "call ref") => `(tactic| (k_here; (with_reducible show wpAny _ _ (call (Value.ref 155) _) _ _ _); k_dflt (refine' c_fi _ _ ?k1 ?k2 ?k3 ?k4 ?k5 ?kK ?kp ?kd ?ku ?_; (case k1 => k_asm); (case k2 => k_asm); (case k3 => k_asm); (case k4 => k_asm); (case k5 => k_asm); (case kK => first | exact rfl | assumption); (case kp => first | (with_reducible exact True.intro) | omega | (with_reducible assumption)); (case kd => ktr_room); (case ku => ktr_units); intro y9 m9 d9 hP9 t91 t92 t93 q9 h9 tk9 F9 N9; (try dsimp only); (try k_fold))))
theorem c_tog (y m d : Int) (t u v : Tok) : ClT 141 8 ((1 ≤ y ∧ y ≤ 82000000) ∧ (1 ≤ m ∧ m ≤ 13) ∧ 1 ≤ d ∧ d ≤ 31) [.int y t, .int m u, .int d v] (fun y9 m9 d9 => IsDate (tj y m d) y9 m9 d9) := by
  unfold ClT
  intros
  rename_i hpre _ _ hret
  have hb := tj_bound (m := m) hpre.1 hpre.2.2
  refine wpAny_call ?_
  k_dflt cell_enter
  k_steps
  all_goals exact hret _ _ _ (by assumption) _ _ _ _ _ _ (by k_asm) (by k_asm)
theorem c_frg (y m d : Int) (t u v : Tok) : ClT 162 5 (IsDate (gj y m d) y m d ∧ 300000 ≤ gj y m d ∧ gj y m d ≤ 31000000000) [.int y t, .int m u, .int d v] (fun y9 m9 d9 => IsIsl (gj y m d) y9 m9 d9) := by
  unfold ClT
  intros
  rename_i hpre _ _ hret
  have hb1 := hpre.1.mon
  have hb2 := hpre.1.day
  have hb3 := hpre.1.rng
  have hb4 := hpre.2
  refine wpAny_call ?_
  k_dflt cell_enter
  k_steps
  all_goals exact hret _ _ _ (by assumption) _ _ _ _ _ _ (by k_asm) (by k_asm)
end Mine
end
section
open PySem PySem.W PyProof.Rows
set_option maxRecDepth 100000
namespace Mine
theorem resetMW8 : True := by
  w_top off
  k_with_none
  trivial
local macro_rules | `(tactic| walk_at "pad") => `(tactic| fail)
local macro_rules | `(tactic| ktr_rel) => `(tactic| first | (with_reducible exact rfl) | exact lit_g | exact lit_h | exact lit_i | exact lit_half | exact lit_295 | exact lit_num | exact lit_den)
local macro_rules | `(tactic| tb_start) => `(tactic| first | decide | omega)
local macro_rules | `(tactic| walk_at "binaryOp Mod int int") => `(tactic| (k_here; (with_reducible refine' m_mod ?b1 ?_); (case b1 => tb_start)))
local macro_rules | `(tactic| walk_at "binaryOp FloorDiv int int") => `(tactic| (k_here; (with_reducible refine' m_fdiv ?b1 ?b2 ?_); (case b1 => tb_start); (case b2 => tb_start)))
local macro_rules | `(tactic| walk_at "binaryOp Add float int") => `(tactic| (k_here; (with_reducible refine' m_add_fi ?hx ?b1 ?b2 ?b3 ?_); (case hx => ktr_rel); (case b1 => tb_start); (case b2 => tb_start); (case b3 => tb_start)))
local macro_rules | `(tactic| walk_at "inplaceOp Add float int") => `(tactic| (k_here; (with_reducible refine' m_iadd_fi ?hA ?hx ?b1 ?b2 ?b3 ?_); (case hA => k_dflt (exact rfl)); (case hx => ktr_rel); (case b1 => tb_start); (case b2 => tb_start); (case b3 => tb_start)))
local macro_rules | `(tactic| walk_at "binaryOp Add int float") => `(tactic| (k_here; (with_reducible refine' m_add_if ?hx ?b1 ?b2 ?b3 ?_); (case hx => ktr_rel); (case b1 => tb_start); (case b2 => tb_start); (case b3 => tb_start)))
local macro_rules | `(tactic| walk_at "binaryOp Sub float int") => `(tactic| (k_here; (with_reducible refine' m_sub_fi ?hx ?b1 ?b2 ?b3 ?_); (case hx => ktr_rel); (case b1 => tb_start); (case b2 => tb_start); (case b3 => tb_start)))
local macro_rules | `(tactic| walk_at "binaryOp Add float float") => `(tactic| (k_here; (with_reducible refine' m_add_ff ?hx ?hy ?b1 ?b2 ?b3 ?_); (case hx => ktr_rel); (case hy => ktr_rel); (case b1 => tb_start); (case b2 => tb_start); (case b3 => tb_start)))
local macro_rules | `(tactic| walk_at "binaryOp Sub float float") => `(tactic| (k_here; (with_reducible refine' m_sub_ff ?hx ?hy ?b1 ?b2 ?b3 ?_); (case hx => ktr_rel); (case hy => ktr_rel); (case b1 => tb_start); (case b2 => tb_start); (case b3 => tb_start)))
local macro_rules | `(tactic| walk_at "binaryOp Div int int") => `(tactic| (k_here; (with_reducible refine' m_div_ii ?hA ?b1 ?b2 ?_); (case hA => k_dflt (exact rfl)); (case b1 => tb_start); (case b2 => tb_start); intro z hz))
local macro_rules | `(tactic| walk_at "binaryOp Div float int") => `(tactic| (k_here; (with_reducible refine' m_div_fi ?hA ?hx ?b1 ?b2 ?b3 ?_); (case hA => k_dflt (exact rfl)); (case hx => ktr_rel); (case b1 => tb_start); (case b2 => tb_start); (case b3 => tb_start); intro z hz))
local macro_rules | `(tactic| walk_at "binaryOp Div float float") => `(tactic| (k_here; (with_reducible refine' m_div_ff ?hA ?hx ?hy ?b1 ?b2 ?b3 ?_); (case hA => k_dflt (exact rfl)); (case hx => ktr_rel); (case hy => ktr_rel); (case b1 => tb_start); (case b2 => tb_start); (case b3 => tb_start); intro z hz))
local macro_rules | `(tactic| walk_at "binaryOp Mod float int") => `(tactic| (k_here; (with_reducible refine' m_mod_fi ?hA ?hx ?b1 ?b2 ?b3 ?_); (case hA => k_dflt (exact rfl)); (case hx => ktr_rel); (case b1 => tb_start); (case b2 => tb_start); (case b3 => tb_start)))
local macro_rules | `(tactic| walk_at "call builtin:math.floor") => `(tactic| (k_here; (with_reducible show wpAny _ _ (call _ [Value.float _ _]) _ _ _); first
  | ((with_reducible refine' m_floor_Q ?hA ?hq ?b1 ?_); (case hA => k_dflt (exact rfl)); (case hq => with_reducible assumption); (case b1 => tb_start))
  | ((with_reducible refine' m_floor ?hA ?hx ?b1 ?_); (case hA => k_dflt (exact rfl)); (case hx => ktr_rel); (case b1 => tb_start))))
local macro_rules | `(tactic| walk_at "call builtin:math.ceil") => `(tactic| (k_here; (with_reducible show wpAny _ _ (call _ [Value.float _ _]) _ _ _); first
  | ((with_reducible refine' m_ceil_Q ?hA ?hq ?b1 ?_); (case hA => k_dflt (exact rfl)); (case hq => with_reducible assumption); (case b1 => tb_start))
  | ((with_reducible refine' m_ceil ?hA ?hx ?b1 ?_); (case hA => k_dflt (exact rfl)); (case hx => ktr_rel); (case b1 => tb_start))))
local macro_rules | `(tactic| walk_at "call type:int") => `(tactic| (k_here; (with_reducible show wpAny _ _ (call _ [Value.float _ _]) _ _ _); (with_reducible refine' m_int ?hA ?hx ?b1 ?b2 ?_); (case hA => k_dflt (exact rfl)); (case hx => ktr_rel); (case b1 => tb_start); (case b2 => tb_start)))
local macro_rules | `(tactic| walk_at "compareOp Gt float float") => `(tactic| (k_here; (with_reducible refine' m_gt_ff ?hx ?hy ?b1 ?b2 ?_); (case hx => ktr_rel); (case hy => ktr_rel); (case b1 => tb_start); (case b2 => tb_start)))
local macro_rules | `(tactic| walk_at "compareOp Lt float float") => `(tactic| (k_here; (with_reducible refine' m_lt_ff ?hx ?hy ?b1 ?b2 ?_); (case hx => ktr_rel); (case hy => ktr_rel); (case b1 => tb_start); (case b2 => tb_start)))
local macro_rules | `(tactic| walk_at "compareOp GtE float float") => `(tactic| (k_here; (with_reducible refine' m_ge_ff ?hx ?hy ?b1 ?b2 ?_); (case hx => ktr_rel); (case hy => ktr_rel); (case b1 => tb_start); (case b2 => tb_start)))
local macro_rules | `(tactic| walk_at "compareOp Lt float int") => `(tactic| (k_here; (with_reducible refine' m_lt_fi ?hx ?b1 ?_); (case hx => ktr_rel); (case b1 => tb_start)))
local macro_rules | `(tactic| walk_at "compareOp Eq float int") => `(tactic| (k_here; (with_reducible refine' m_eq_fi ?hx ?b1 ?_); (case hx => ktr_rel); (case b1 => tb_start)))
local macro_rules | `(tactic| walk_at "compareOp NotEq float int") => `(tactic| (k_here; (with_reducible refine' m_ne_fi ?hx ?b1 ?_); (case hx => ktr_rel); (case b1 => tb_start)))
local macro_rules | `(tactic| walk_at "UnrEnd") => `(tactic| (refine' UnrEnd.intro ?F ?N ?nn ?sub ?off ?_; (case sub => exact fun _ hp => hp); (case F => k_asm); (case N => k_asm); (case off => first | exact off_of (by assumption) | exact offI_of (by assumption)); (try ((refine' ⟨rfl, endF ?e1 ?e2, ?e3⟩); (case e1 => with_unfolding_all rfl); (case e2 => (simp only [accS]; omega)); (case e3 => (intro z h1 h2; simp only [h1, h2, if_false]))))))
local macro_rules | `(tactic| walk_at "binaryOp Mult float int") => `(tactic| (k_here; first
  | ((with_reducible refine' m_mul_fi ?hx ?b1 ?b2 ?b3 ?b4 ?_); (case hx => ktr_rel); (case b1 => tb_start); (case b2 => tb_start); (case b3 => tb_start); (case b4 => tb_start))
  | ((with_reducible refine' m_mul_fi' ?hx ?b1 ?b2 ?b3 ?b4 ?b5 ?_); (case hx => ktr_rel); (case b1 => tb_start); (case b2 => tb_start); (case b3 => tb_start); (case b4 => tb_start); (case b5 => tb_start))))
local macro_rules | `(tactic| walk_at "binaryOp Mult int float") => `(tactic| (k_here; ((with_reducible refine' m_mul_if' ?hx ?b1 ?b2 ?b3 ?b4 ?_); (case hx => ktr_rel); (case b1 => tb_start); (case b2 => tb_start); (case b3 => tb_start); (case b4 => tb_start))))
local macro_rules | `(tactic| walk_at "binaryOp Mult float float") => `(tactic| (k_here; ((with_reducible refine' m_mul_ff ?hx ?hy ?b1 ?b2 ?b3 ?b4 ?_); (case hx => ktr_rel); (case hy => exact lit_num2); (case b1 => tb_start); (case b2 => tb_start); (case b3 => tb_start); (case b4 => tb_start))))
local macro_rules | `(tactic| walk_at "call builtin:divmod") => `(tactic| (k_here; (with_reducible show wpAny _ _ (call (Value.builtin _) [Value.int _ _, Value.int _ _]) _ _ _); (rename Fr _ _ _ _ => dF); (rename News _ _ _ _ => dN); (refine' m_divmod dF dN ?b1 ?b2 ?_; (case b1 => tb_start); (case b2 => tb_start)); intro _ _ _))
set_option maxHeartbeats 8000000
theorem tj_bound3 {y m d : Int} (h : -5 ≤ y ∧ y ≤ 99999980) (hd : 1 ≤ d ∧ d ≤ 31) : 300000 ≤ tj y m d ∧ tj y m d ≤ 42000000000 := by
  have h1 := T_bound (y := y) (by omega)
  have h2 := off_bound y m
  unfold tj
  omega
theorem c_tojdN {prog : Program} {w : World} {p : Program} {loose : List Str} {mean : ExcName → Option Value} {mg mb : Str → Option Value} {news : List (Addr × Obj)}
    {dp un : Nat} {gd : Option (List Code)} {cn : Str} {cs : Scope} {a : Addr} {ccd : Value} {cl : List (Str × Addr)} {outer : List Env} {A₀ : Around} {base h₀ : Heap} {L : Addr} {m₀ : Str → Option Value} {s : Shared} {Q E : Value → Shared → Prop}
    (y m d : Int) {y' m' d' : Int} (t u v : Tok) (hy : y' = y) (hm : m' = m) (hd : d' = d) (B : Below A₀ base outer h₀) (F : Fr h₀ L s.heap m₀) (X : (Mine.hd.heap_39 w.params).In h₀) (Ne : News h₀ L s.heap news) (T : Top p loose mean mg mb h₀) (hk : cs.kind = .function)
    (hpre : (-5 ≤ y ∧ y ≤ 99999980) ∧ (1 ≤ m ∧ m ≤ 13) ∧ 1 ≤ d ∧ d ≤ 31) (hdp : dp + 7 < recursionLimit) (hu : un + 8 * 7 < cLine)
    (hret : 300000 ≤ tj y m d ∧ tj y m d ≤ 42000000000 → ∀ (t : Tok) (h' : Heap) (tk' : Nat), Fr h₀ L h' m₀ → News h₀ L h' news → Q (.float (hf (2 * tj y m d + 1)) t) { s with heap := h', toks := tk' }) :
    wpAny (model prog w) (ktrTop dp un gd cn cs L a ccd cl outer) (call (.ref 127) [.int y' t, .int m' u, .int d' v]) Q E s := by
  subst hy hm hd
  exact c_tojd y' m' d' t u v B F X Ne T hk hpre hdp hu (hret (tj_bound3 hpre.1 hpre.2.2))
theorem c_mdaysY (y : Int) {y' m : Int} (t u : Tok) (hy : y' = y) : Cl 120 6 ((-5 ≤ y ∧ y ≤ 99999980) ∧ 1 ≤ m ∧ m ≤ 13) [.int y' t, .int m u] (fun t => .int (ml y m) t) := by
  subst hy
  exact c_mdays y' m t u
local macro_rules | `(tactic| walk_at "call builtin:math.floor") => `(tactic| (k_here; (with_reducible show wpAny _ _ (call _ [Value.float _ _]) _ _ _); ((with_reducible refine' m_floor_Qv ?hA ?hq ?b1 ?_); (case hA => k_dflt (exact rfl)); (case hq => with_reducible assumption); (case b1 => tb_start); intro q9 e9 f9 g9)))
local macro_rules | `(tactic| walk_at "call builtin:math.floor") => `(tactic| (k_here; (with_reducible show wpAny _ _ (call _ [Value.float _ _]) _ _ _); ((with_reducible refine' m_floor_Qh ?hA ?hq ?b1 ?b2 ?b3 ?_); (case hA => k_dflt (exact rfl)); (case hq => with_reducible assumption); (case b1 => omega); (case b2 => omega); (case b3 => omega); intro q9 e9 f9 g9)))
local macro_rules | `(tactic| walk_at "call ref") => `(tactic| k_extra "call ref")
local macro_rules | `(tactic| walk_at "exec While Compare cons nil") => `(tactic| k_extra "exec While Compare cons nil")
theorem c_fh (N y m d : Int) (z : UInt64) (t : Tok) (hz : IsZ z (4 * N + 3) 4) : ClT 134 9 (HebOk N y m d) [.float z t] (fun y9 m9 d9 => y9 = y ∧ m9 = m ∧ d9 = d) := by
  unfold ClT
  intros
  rename_i H _ _ hret
  have hyr := H.yr
  have hmon := H.mon
  have hday := H.day
  have hrng := H.rng
  have hcnt := H.cnt
  have hnum := tj_day y m d
  rw [← H.num] at hnum
  have hfl := first_le hmon
  have hmlb := ml_bound y
  have hnis := H.nis
  have hb1 : 300000 ≤ tj y 1 1 ∧ tj y 1 1 ≤ 31000000000 := tj_bound hyr (by decide)
  have hb2 : ∀ i d, 1 ≤ d ∧ d ≤ 31 → 300000 ≤ tj y i d ∧ tj y i d ≤ 31000000000 := fun i d hd => tj_bound hyr hd
  have hf1 : 7 ≤ m ∨ first m = 1 := by unfold first; split <;> omega
  k_with_none
  k_with "exec While Compare cons nil" => ((rename Fr _ _ _ _ => lF); (rename News _ _ _ _ => lN); k_dflt (first
    | (refine' while2b (x1 := PySem.Str.ofString "i") (x2 := PySem.Str.ofString "month") m ?hE lF lN ?g1 ?g2 ?hab ?_ ?_ ?_; (case g1 => rfl); (case g2 => rfl); (case hab => omega); (case hE => first | passes_own | with_unfolding_all passes_own))
    | (refine' while2b (x1 := PySem.Str.ofString "i") (x2 := PySem.Str.ofString "year") (y + 1) ?hE lF lN ?g1 ?g2 ?hab ?_ ?_ ?_; (case g1 => rfl); (case g2 => rfl); (case hab => omega); (case hE => first | passes_own | with_unfolding_all passes_own))); intro k9 t19 t29 h9 tk9 hk9 F9 N9; rotate_left; intro k9 t19 t29 h9 tk9 hk9 F9 N9; rotate_left; intro t19 t29 h9 tk9 F9 N9; rotate_left)
  k_with "call ref" => (k_here; (with_reducible show wpAny _ _ (call (Value.ref 127) _) _ _ _); k_dflt (first
    | (refine' c_tojdN y 1 1 _ _ _ ?e1 ?e2 ?e3 ?k1 ?k2 ?k3 ?k4 ?k5 ?kK ?kp ?kd ?ku ?_; (case e1 => omega); (case e2 => rfl); (case e3 => rfl))
    | (refine' c_tojdN y m 1 _ _ _ ?e1 ?e2 ?e3 ?k1 ?k2 ?k3 ?k4 ?k5 ?kK ?kp ?kd ?ku ?_; (case e1 => omega); (case e2 => omega); (case e3 => rfl))
    | (refine' c_tojdN y _ _ _ _ _ ?e1 ?e2 ?e3 ?k1 ?k2 ?k3 ?k4 ?k5 ?kK ?kp ?kd ?ku ?_; (case e1 => omega); (case e2 => rfl); (case e3 => rfl))
    | (refine' c_tojdN _ 7 1 _ _ _ ?e1 ?e2 ?e3 ?k1 ?k2 ?k3 ?k4 ?k5 ?kK ?kp ?kd ?ku ?_; (case e1 => rfl); (case e2 => rfl); (case e3 => rfl))); (case k1 => k_asm); (case k2 => k_asm); (case k3 => k_asm); (case k4 => k_asm); (case k5 => k_asm); (case kK => first | exact rfl | assumption); (case kp => first | omega | exact ⟨by omega, by omega, Int.le_trans (by decide) (hmlb _).1, Int.le_trans (hmlb _).2 (by decide)⟩); (case kd => ktr_room); (case ku => ktr_units); intro hbd9 t9 h9 tk9 F9 N9; (try dsimp only); (try k_fold))
  k_with "call ref" => (k_here; (with_reducible show wpAny _ _ (call (Value.ref 120) _) _ _ _); k_dflt (refine' c_mdaysY y _ _ ?e1 ?k1 ?k2 ?k3 ?k4 ?k5 ?kK ?kp ?kd ?ku ?_; (case e1 => omega)); (case k1 => k_asm); (case k2 => k_asm); (case k3 => k_asm); (case k4 => k_asm); (case k5 => k_asm); (case kK => first | exact rfl | assumption); (case kp => omega); (case kd => ktr_room); (case ku => ktr_units); intro t9 h9 tk9 F9 N9; (try dsimp only); (try k_fold))
  refine wpAny_call ?_
  k_dflt cell_enter
  k_steps
  all_goals try (first
    | (refine testEnd_intro (by k_asm) (by k_asm) ?_; exact tst1 H (by omega) (by omega) (by omega))
    | (refine testEnd_intro (by k_asm) (by k_asm) ?_; exact tst2 H (by omega) (by omega) (by omega))
    | (refine' bodyEnd_intro ?F ?N ?e1 ?e2 ?e3; (case F => k_asm); (case N => k_asm); (case e1 => with_unfolding_all rfl); (case e2 => with_unfolding_all rfl); (case e3 => (intro z h1 h2; simp only [at2, h1, h2, if_false]))))
  all_goals (refine' hret _ _ _ ?P _ _ _ _ _ _ ?F ?N; (case N => k_asm); (case F => k_asm); (case P => (refine ⟨?_, ?_, ?_⟩ <;> omega)))
end Mine
end
section
open PySem PySem.W PyProof.Rows
set_option maxRecDepth 100000
namespace Mine
theorem resetMW9 : True := by
  w_top off
  k_with_none
  trivial
local macro_rules | `(tactic| ktr_rel) => `(tactic| first | (with_reducible exact rfl) | exact lit_g | exact lit_h | exact lit_i | exact lit_half | exact lit_295 | exact lit_num | exact lit_den)
local macro_rules | `(tactic| tb_start) => `(tactic| first | decide | omega)
local macro_rules | `(tactic| walk_at "binaryOp Mod int int") => `(tactic| (k_here; (with_reducible refine' m_mod ?b1 ?_); (case b1 => tb_start)))
local macro_rules | `(tactic| walk_at "binaryOp FloorDiv int int") => `(tactic| (k_here; (with_reducible refine' m_fdiv ?b1 ?b2 ?_); (case b1 => tb_start); (case b2 => tb_start)))
local macro_rules | `(tactic| walk_at "binaryOp Add float int") => `(tactic| (k_here; (with_reducible refine' m_add_fi ?hx ?b1 ?b2 ?b3 ?_); (case hx => ktr_rel); (case b1 => tb_start); (case b2 => tb_start); (case b3 => tb_start)))
local macro_rules | `(tactic| walk_at "inplaceOp Add float int") => `(tactic| (k_here; (with_reducible refine' m_iadd_fi ?hA ?hx ?b1 ?b2 ?b3 ?_); (case hA => k_dflt (exact rfl)); (case hx => ktr_rel); (case b1 => tb_start); (case b2 => tb_start); (case b3 => tb_start)))
local macro_rules | `(tactic| walk_at "binaryOp Add int float") => `(tactic| (k_here; (with_reducible refine' m_add_if ?hx ?b1 ?b2 ?b3 ?_); (case hx => ktr_rel); (case b1 => tb_start); (case b2 => tb_start); (case b3 => tb_start)))
local macro_rules | `(tactic| walk_at "binaryOp Sub float int") => `(tactic| (k_here; (with_reducible refine' m_sub_fi ?hx ?b1 ?b2 ?b3 ?_); (case hx => ktr_rel); (case b1 => tb_start); (case b2 => tb_start); (case b3 => tb_start)))
local macro_rules | `(tactic| walk_at "binaryOp Add float float") => `(tactic| (k_here; (with_reducible refine' m_add_ff ?hx ?hy ?b1 ?b2 ?b3 ?_); (case hx => ktr_rel); (case hy => ktr_rel); (case b1 => tb_start); (case b2 => tb_start); (case b3 => tb_start)))
local macro_rules | `(tactic| walk_at "binaryOp Sub float float") => `(tactic| (k_here; (with_reducible refine' m_sub_ff ?hx ?hy ?b1 ?b2 ?b3 ?_); (case hx => ktr_rel); (case hy => ktr_rel); (case b1 => tb_start); (case b2 => tb_start); (case b3 => tb_start)))
local macro_rules | `(tactic| walk_at "binaryOp Div int int") => `(tactic| (k_here; (with_reducible refine' m_div_ii ?hA ?b1 ?b2 ?_); (case hA => k_dflt (exact rfl)); (case b1 => tb_start); (case b2 => tb_start); intro z hz))
local macro_rules | `(tactic| walk_at "binaryOp Div float int") => `(tactic| (k_here; (with_reducible refine' m_div_fi ?hA ?hx ?b1 ?b2 ?b3 ?_); (case hA => k_dflt (exact rfl)); (case hx => ktr_rel); (case b1 => tb_start); (case b2 => tb_start); (case b3 => tb_start); intro z hz))
local macro_rules | `(tactic| walk_at "binaryOp Div float float") => `(tactic| (k_here; (with_reducible refine' m_div_ff ?hA ?hx ?hy ?b1 ?b2 ?b3 ?_); (case hA => k_dflt (exact rfl)); (case hx => ktr_rel); (case hy => ktr_rel); (case b1 => tb_start); (case b2 => tb_start); (case b3 => tb_start); intro z hz))
local macro_rules | `(tactic| walk_at "binaryOp Mod float int") => `(tactic| (k_here; (with_reducible refine' m_mod_fi ?hA ?hx ?b1 ?b2 ?b3 ?_); (case hA => k_dflt (exact rfl)); (case hx => ktr_rel); (case b1 => tb_start); (case b2 => tb_start); (case b3 => tb_start)))
local macro_rules | `(tactic| walk_at "call builtin:math.floor") => `(tactic| (k_here; (with_reducible show wpAny _ _ (call _ [Value.float _ _]) _ _ _); first
  | ((with_reducible refine' m_floor_Q ?hA ?hq ?b1 ?_); (case hA => k_dflt (exact rfl)); (case hq => with_reducible assumption); (case b1 => tb_start))
  | ((with_reducible refine' m_floor ?hA ?hx ?b1 ?_); (case hA => k_dflt (exact rfl)); (case hx => ktr_rel); (case b1 => tb_start))))
local macro_rules | `(tactic| walk_at "call builtin:math.ceil") => `(tactic| (k_here; (with_reducible show wpAny _ _ (call _ [Value.float _ _]) _ _ _); first
  | ((with_reducible refine' m_ceil_Q ?hA ?hq ?b1 ?_); (case hA => k_dflt (exact rfl)); (case hq => with_reducible assumption); (case b1 => tb_start))
  | ((with_reducible refine' m_ceil ?hA ?hx ?b1 ?_); (case hA => k_dflt (exact rfl)); (case hx => ktr_rel); (case b1 => tb_start))))
local macro_rules | `(tactic| walk_at "call type:int") => `(tactic| (k_here; (with_reducible show wpAny _ _ (call _ [Value.float _ _]) _ _ _); (with_reducible refine' m_int ?hA ?hx ?b1 ?b2 ?_); (case hA => k_dflt (exact rfl)); (case hx => ktr_rel); (case b1 => tb_start); (case b2 => tb_start)))
local macro_rules | `(tactic| walk_at "compareOp Gt float float") => `(tactic| (k_here; (with_reducible refine' m_gt_ff ?hx ?hy ?b1 ?b2 ?_); (case hx => ktr_rel); (case hy => ktr_rel); (case b1 => tb_start); (case b2 => tb_start)))
local macro_rules | `(tactic| walk_at "compareOp Lt float float") => `(tactic| (k_here; (with_reducible refine' m_lt_ff ?hx ?hy ?b1 ?b2 ?_); (case hx => ktr_rel); (case hy => ktr_rel); (case b1 => tb_start); (case b2 => tb_start)))
local macro_rules | `(tactic| walk_at "compareOp GtE float float") => `(tactic| (k_here; (with_reducible refine' m_ge_ff ?hx ?hy ?b1 ?b2 ?_); (case hx => ktr_rel); (case hy => ktr_rel); (case b1 => tb_start); (case b2 => tb_start)))
local macro_rules | `(tactic| walk_at "compareOp Lt float int") => `(tactic| (k_here; (with_reducible refine' m_lt_fi ?hx ?b1 ?_); (case hx => ktr_rel); (case b1 => tb_start)))
local macro_rules | `(tactic| walk_at "compareOp Eq float int") => `(tactic| (k_here; (with_reducible refine' m_eq_fi ?hx ?b1 ?_); (case hx => ktr_rel); (case b1 => tb_start)))
local macro_rules | `(tactic| walk_at "compareOp NotEq float int") => `(tactic| (k_here; (with_reducible refine' m_ne_fi ?hx ?b1 ?_); (case hx => ktr_rel); (case b1 => tb_start)))
local macro_rules | `(tactic| walk_at "UnrEnd") => `(tactic| (refine' UnrEnd.intro ?F ?N ?nn ?sub ?off ?_; (case sub => exact fun _ hp => hp); (case F => k_asm); (case N => k_asm); (case off => first | exact off_of (by assumption) | exact offI_of (by assumption)); (try ((refine' ⟨rfl, endF ?e1 ?e2, ?e3⟩); (case e1 => with_unfolding_all rfl); (case e2 => (simp only [accS]; omega)); (case e3 => (intro z h1 h2; simp only [h1, h2, if_false]))))))
local macro_rules | `(tactic| walk_at "binaryOp Mult float int") => `(tactic| (k_here; first
  | ((with_reducible refine' m_mul_fi ?hx ?b1 ?b2 ?b3 ?b4 ?_); (case hx => ktr_rel); (case b1 => tb_start); (case b2 => tb_start); (case b3 => tb_start); (case b4 => tb_start))
  | ((with_reducible refine' m_mul_fi' ?hx ?b1 ?b2 ?b3 ?b4 ?b5 ?_); (case hx => ktr_rel); (case b1 => tb_start); (case b2 => tb_start); (case b3 => tb_start); (case b4 => tb_start); (case b5 => tb_start))))
local macro_rules | `(tactic| walk_at "binaryOp Mult int float") => `(tactic| (k_here; ((with_reducible refine' m_mul_if' ?hx ?b1 ?b2 ?b3 ?b4 ?_); (case hx => ktr_rel); (case b1 => tb_start); (case b2 => tb_start); (case b3 => tb_start); (case b4 => tb_start))))
local macro_rules | `(tactic| walk_at "binaryOp Mult float float") => `(tactic| (k_here; ((with_reducible refine' m_mul_ff ?hx ?hy ?b1 ?b2 ?b3 ?b4 ?_); (case hx => ktr_rel); (case hy => exact lit_num2); (case b1 => tb_start); (case b2 => tb_start); (case b3 => tb_start); (case b4 => tb_start))))
local macro_rules | `(tactic| walk_at "call builtin:divmod") => `(tactic| (k_here; (with_reducible show wpAny _ _ (call (Value.builtin _) [Value.int _ _, Value.int _ _]) _ _ _); (rename Fr _ _ _ _ => dF); (rename News _ _ _ _ => dN); (refine' m_divmod dF dN ?b1 ?b2 ?_; (case b1 => tb_start); (case b2 => tb_start)); intro _ _ _))
set_option maxHeartbeats 8000000
theorem c_march (y : Int) (t : Tok) : Cl 172 1 (-1 ≤ y ∧ y ≤ 90000000) [.int y t] (fun t => .int (march y) t) := by
  unfold Cl
  intros
  rename_i hpre _ _ hret
  dsimp only at hret
  refine wpAny_call ?_
  k_dflt cell_enter
  k_steps
  all_goals (refine retI hret (by k_asm) (by first | k_asm | (refine' cb_drop ?cbN ?cbS; (case cbN => assumption); (case cbS => kcj_all))) ?_)
  all_goals (unfold march)
  all_goals first
    | (rw [p_a (by assumption)]; rfl)
    | (rw [p_b (by assumption) (by assumption) (by assumption)]; rfl)
    | (rw [p_d (w := (mM y / 492480 + 3 * y + 5 * (y % 4) + 5) % 7) (g := (12 * y + 17) % 19) (p := mM y % 492480) (by assumption) (by assumption) (by assumption)]; rfl)
    | (rw [p_e (by assumption) (by first | exact Or.inl (by assumption) | exact Or.inr (Or.inl (by assumption)) | exact Or.inr (Or.inr (by assumption)) | exact Or.inl (by omega) | (exfalso; omega)) (by first | exact Or.inl (by assumption) | exact Or.inr (Or.inl (by assumption)) | exact Or.inr (Or.inr (by assumption)) | exact Or.inl (by omega) | (exfalso; omega))]; rw [Int.add_zero]; rfl)
    | (exfalso; omega)
local macro_rules | `(tactic| walk_at "call ref") => `(tactic| (k_here; (with_reducible show wpAny _ _ (call (Value.ref 172) _) _ _ _); k_dflt (refine' c_march _ _ ?k1 ?k2 ?k3 ?k4 ?k5 ?kK ?kp ?kd ?ku ?_; (case k1 => k_asm); (case k2 => k_asm); (case k3 => k_asm); (case k4 => k_asm); (case k5 => k_asm); (case kK => first | exact rfl | assumption); (case kp => first | (with_reducible exact True.intro) | omega | (with_reducible assumption)); (case kd => ktr_room); (case ku => ktr_units); intro t9 h9 tk9 F9 N9; (try dsimp only); (try k_fold))))
theorem c_spring (y : Int) (t : Tok) : Cl 179 2 (-1 ≤ y ∧ y ≤ 90000000) [.int y t] (fun t => .int (spring y) t) := by
  unfold Cl
  intros
  rename_i hpre _ _ hret
  dsimp only at hret
  refine wpAny_call ?_
  k_dflt cell_enter
  k_steps
  all_goals (refine retI hret (by k_asm) (by first | k_asm | (refine' cb_drop ?cbN ?cbS; (case cbN => assumption); (case cbS => kcj_all))) ?_)
  all_goals rfl
end Mine
end
section
open PySem PySem.W PyProof.Rows
set_option maxRecDepth 100000
namespace Mine
theorem resetMWA : True := by
  w_top off
  k_with_none
  trivial
local macro_rules | `(tactic| ktr_rel) => `(tactic| first | (with_reducible exact rfl) | exact lit_g | exact lit_h | exact lit_i | exact lit_half | exact lit_295 | exact lit_num | exact lit_den)
local macro_rules | `(tactic| tb_start) => `(tactic| first | decide | omega)
local macro_rules | `(tactic| walk_at "binaryOp Mod int int") => `(tactic| (k_here; (with_reducible refine' m_mod ?b1 ?_); (case b1 => tb_start)))
local macro_rules | `(tactic| walk_at "binaryOp FloorDiv int int") => `(tactic| (k_here; (with_reducible refine' m_fdiv ?b1 ?b2 ?_); (case b1 => tb_start); (case b2 => tb_start)))
local macro_rules | `(tactic| walk_at "binaryOp Add float int") => `(tactic| (k_here; (with_reducible refine' m_add_fi ?hx ?b1 ?b2 ?b3 ?_); (case hx => ktr_rel); (case b1 => tb_start); (case b2 => tb_start); (case b3 => tb_start)))
local macro_rules | `(tactic| walk_at "inplaceOp Add float int") => `(tactic| (k_here; (with_reducible refine' m_iadd_fi ?hA ?hx ?b1 ?b2 ?b3 ?_); (case hA => k_dflt (exact rfl)); (case hx => ktr_rel); (case b1 => tb_start); (case b2 => tb_start); (case b3 => tb_start)))
local macro_rules | `(tactic| walk_at "binaryOp Add int float") => `(tactic| (k_here; (with_reducible refine' m_add_if ?hx ?b1 ?b2 ?b3 ?_); (case hx => ktr_rel); (case b1 => tb_start); (case b2 => tb_start); (case b3 => tb_start)))
local macro_rules | `(tactic| walk_at "binaryOp Sub float int") => `(tactic| (k_here; (with_reducible refine' m_sub_fi ?hx ?b1 ?b2 ?b3 ?_); (case hx => ktr_rel); (case b1 => tb_start); (case b2 => tb_start); (case b3 => tb_start)))
local macro_rules | `(tactic| walk_at "binaryOp Add float float") => `(tactic| (k_here; (with_reducible refine' m_add_ff ?hx ?hy ?b1 ?b2 ?b3 ?_); (case hx => ktr_rel); (case hy => ktr_rel); (case b1 => tb_start); (case b2 => tb_start); (case b3 => tb_start)))
local macro_rules | `(tactic| walk_at "binaryOp Sub float float") => `(tactic| (k_here; (with_reducible refine' m_sub_ff ?hx ?hy ?b1 ?b2 ?b3 ?_); (case hx => ktr_rel); (case hy => ktr_rel); (case b1 => tb_start); (case b2 => tb_start); (case b3 => tb_start)))
local macro_rules | `(tactic| walk_at "binaryOp Div int int") => `(tactic| (k_here; (with_reducible refine' m_div_ii ?hA ?b1 ?b2 ?_); (case hA => k_dflt (exact rfl)); (case b1 => tb_start); (case b2 => tb_start); intro z hz))
local macro_rules | `(tactic| walk_at "binaryOp Div float int") => `(tactic| (k_here; (with_reducible refine' m_div_fi ?hA ?hx ?b1 ?b2 ?b3 ?_); (case hA => k_dflt (exact rfl)); (case hx => ktr_rel); (case b1 => tb_start); (case b2 => tb_start); (case b3 => tb_start); intro z hz))
local macro_rules | `(tactic| walk_at "binaryOp Div float float") => `(tactic| (k_here; (with_reducible refine' m_div_ff ?hA ?hx ?hy ?b1 ?b2 ?b3 ?_); (case hA => k_dflt (exact rfl)); (case hx => ktr_rel); (case hy => ktr_rel); (case b1 => tb_start); (case b2 => tb_start); (case b3 => tb_start); intro z hz))
local macro_rules | `(tactic| walk_at "binaryOp Mod float int") => `(tactic| (k_here; (with_reducible refine' m_mod_fi ?hA ?hx ?b1 ?b2 ?b3 ?_); (case hA => k_dflt (exact rfl)); (case hx => ktr_rel); (case b1 => tb_start); (case b2 => tb_start); (case b3 => tb_start)))
local macro_rules | `(tactic| walk_at "call builtin:math.floor") => `(tactic| (k_here; (with_reducible show wpAny _ _ (call _ [Value.float _ _]) _ _ _); first
  | ((with_reducible refine' m_floor_Q ?hA ?hq ?b1 ?_); (case hA => k_dflt (exact rfl)); (case hq => with_reducible assumption); (case b1 => tb_start))
  | ((with_reducible refine' m_floor ?hA ?hx ?b1 ?_); (case hA => k_dflt (exact rfl)); (case hx => ktr_rel); (case b1 => tb_start))))
local macro_rules | `(tactic| walk_at "call builtin:math.ceil") => `(tactic| (k_here; (with_reducible show wpAny _ _ (call _ [Value.float _ _]) _ _ _); first
  | ((with_reducible refine' m_ceil_Q ?hA ?hq ?b1 ?_); (case hA => k_dflt (exact rfl)); (case hq => with_reducible assumption); (case b1 => tb_start))
  | ((with_reducible refine' m_ceil ?hA ?hx ?b1 ?_); (case hA => k_dflt (exact rfl)); (case hx => ktr_rel); (case b1 => tb_start))))
local macro_rules | `(tactic| walk_at "call type:int") => `(tactic| (k_here; (with_reducible show wpAny _ _ (call _ [Value.float _ _]) _ _ _); (with_reducible refine' m_int ?hA ?hx ?b1 ?b2 ?_); (case hA => k_dflt (exact rfl)); (case hx => ktr_rel); (case b1 => tb_start); (case b2 => tb_start)))
local macro_rules | `(tactic| walk_at "compareOp Gt float float") => `(tactic| (k_here; (with_reducible refine' m_gt_ff ?hx ?hy ?b1 ?b2 ?_); (case hx => ktr_rel); (case hy => ktr_rel); (case b1 => tb_start); (case b2 => tb_start)))
local macro_rules | `(tactic| walk_at "compareOp Lt float float") => `(tactic| (k_here; (with_reducible refine' m_lt_ff ?hx ?hy ?b1 ?b2 ?_); (case hx => ktr_rel); (case hy => ktr_rel); (case b1 => tb_start); (case b2 => tb_start)))
local macro_rules | `(tactic| walk_at "compareOp GtE float float") => `(tactic| (k_here; (with_reducible refine' m_ge_ff ?hx ?hy ?b1 ?b2 ?_); (case hx => ktr_rel); (case hy => ktr_rel); (case b1 => tb_start); (case b2 => tb_start)))
local macro_rules | `(tactic| walk_at "compareOp Lt float int") => `(tactic| (k_here; (with_reducible refine' m_lt_fi ?hx ?b1 ?_); (case hx => ktr_rel); (case b1 => tb_start)))
local macro_rules | `(tactic| walk_at "compareOp Eq float int") => `(tactic| (k_here; (with_reducible refine' m_eq_fi ?hx ?b1 ?_); (case hx => ktr_rel); (case b1 => tb_start)))
local macro_rules | `(tactic| walk_at "compareOp NotEq float int") => `(tactic| (k_here; (with_reducible refine' m_ne_fi ?hx ?b1 ?_); (case hx => ktr_rel); (case b1 => tb_start)))
local macro_rules | `(tactic| walk_at "UnrEnd") => `(tactic| (refine' UnrEnd.intro ?F ?N ?nn ?sub ?off ?_; (case sub => exact fun _ hp => hp); (case F => k_asm); (case N => k_asm); (case off => first | exact off_of (by assumption) | exact offI_of (by assumption)); (try ((refine' ⟨rfl, endF ?e1 ?e2, ?e3⟩); (case e1 => with_unfolding_all rfl); (case e2 => (simp only [accS]; omega)); (case e3 => (intro z h1 h2; simp only [h1, h2, if_false]))))))
local macro_rules | `(tactic| walk_at "binaryOp Mult float int") => `(tactic| (k_here; first
  | ((with_reducible refine' m_mul_fi ?hx ?b1 ?b2 ?b3 ?b4 ?_); (case hx => ktr_rel); (case b1 => tb_start); (case b2 => tb_start); (case b3 => tb_start); (case b4 => tb_start))
  | ((with_reducible refine' m_mul_fi' ?hx ?b1 ?b2 ?b3 ?b4 ?b5 ?_); (case hx => ktr_rel); (case b1 => tb_start); (case b2 => tb_start); (case b3 => tb_start); (case b4 => tb_start); (case b5 => tb_start))))
local macro_rules | `(tactic| walk_at "binaryOp Mult int float") => `(tactic| (k_here; ((with_reducible refine' m_mul_if' ?hx ?b1 ?b2 ?b3 ?b4 ?_); (case hx => ktr_rel); (case b1 => tb_start); (case b2 => tb_start); (case b3 => tb_start); (case b4 => tb_start))))
local macro_rules | `(tactic| walk_at "binaryOp Mult float float") => `(tactic| (k_here; ((with_reducible refine' m_mul_ff ?hx ?hy ?b1 ?b2 ?b3 ?b4 ?_); (case hx => ktr_rel); (case hy => exact lit_num2); (case b1 => tb_start); (case b2 => tb_start); (case b3 => tb_start); (case b4 => tb_start))))
local macro_rules | `(tactic| walk_at "call builtin:divmod") => `(tactic| (k_here; (with_reducible show wpAny _ _ (call (Value.builtin _) [Value.int _ _, Value.int _ _]) _ _ _); (rename Fr _ _ _ _ => dF); (rename News _ _ _ _ => dN); (refine' m_divmod dF dN ?b1 ?b2 ?_; (case b1 => tb_start); (case b2 => tb_start)); intro _ _ _))
set_option maxHeartbeats 8000000
theorem ifexp_int {prog : Program} {w : World} {A : Around} {E : Value → Shared → Prop} {s : Shared} {env : Env} {test : PySem.Expr} {pos p1 p2 : Pos} {a b : Int} {k1 k2 : Nat} {Q : Value → Shared → Prop}
    (h : wpAny (model prog w) A (isTrue test env (eval test env)) (fun c s₂ => Q (.int (if c = true then a else b) s₂.toks) { s₂ with toks := s₂.toks + 1 }) E s) :
    wpAny (model prog w) A (eval (.IfExp test (.Constant (.int a) k1 p1) (.Constant (.int b) k2 p2) pos) env) Q E s := by
  refine IfExp_ (wpAny_mono h (fun c s₂ e => ?_) fun _ _ x => x)
  cases c with
  | true => exact wpAny_Constant_int e
  | false => exact wpAny_Constant_int e
local macro_rules | `(tactic| walk_at "eval IfExp") => `(tactic| (k_here; with_reducible refine' ifexp_int ?_))
local macro_rules | `(tactic| walk_at "inplaceOp Add ref ref") => `(tactic| (k_here; (k_dflt (refine' iadd_K ?F ?N ?hb ?U ?hne ?hsz ?_; (case F => k_asm); (case N => k_asm); (case hb => k_mem); (case U => k_upd); (case hne => intro e; cases e); (case hsz => (rw [sizeLine_eq]; simp only [List.length_cons, List.length_nil]; omega))); intro h' F' N'; (try simp only [List.cons_append, List.nil_append] at N'); (try k_sweep))))
theorem c_months (sz : Int) (t : Tok) : ∀ {prog : Program} {w : World} {p : Program} {loose : List Str} {mean : ExcName → Option Value} {mg mb : Str → Option Value} {news : List (Addr × Obj)}
    {dp un : Nat} {gd : Option (List Code)} {cn : Str} {cs : Scope} {a : Addr} {ccd : Value} {cl : List (Str × Addr)} {outer : List Env} {A₀ : Around} {base h₀ : Heap} {L : Addr} {m : Str → Option Value} {s : Shared} {Q E : Value → Shared → Prop},
    Below A₀ base outer h₀ → Fr h₀ L s.heap m → (hd.heap_39 w.params).In h₀ → News h₀ L s.heap news → Top p loose mean mg mb h₀ → cs.kind = .function →
    dp + 1 < recursionLimit → un + 8 * 1 < cLine →
    (∀ (D : Addr) (rs : List Value) (news' : List (Addr × Obj)) (h' : Heap) (tk' : Nat), (∀ p ∈ news, p ∈ news') → MonthsAt sz D rs news' → Fr h₀ L h' m → News h₀ L h' news' → Q (.ref D) { s with heap := h', toks := tk' }) →
    wpAny (model prog w) (ktrTop dp un gd cn cs L a ccd cl outer) (call (.ref 186) [.int sz t]) Q E s := by
  intros
  rename_i _ _ hret
  refine wpAny_call ?_
  k_dflt cell_enter
  k_steps
  all_goals (refine hret _ ?_ _ _ _ ?_ ?_ ?_ (by k_asm); rotate_left 3; k_asm; rotate_left 1; kcj_all; (first | refine monthsAt13 (by k_mem) (by assumption) ?_ | refine monthsAt12 (by k_mem) (by first | assumption | omega) ?_); (repeat (refine Pairs.cons (by k_mem) ?_)); exact Pairs.nil)
end Mine
end
section
open PySem PySem.W PyProof.Rows
set_option maxRecDepth 100000
namespace Mine
theorem resetMWB : True := by
  w_top off
  k_with_none
  trivial
local macro_rules | `(tactic| ktr_rel) => `(tactic| first | (with_reducible exact rfl) | exact lit_g | exact lit_h | exact lit_i | exact lit_half | exact lit_295 | exact lit_num | exact lit_den)
local macro_rules | `(tactic| tb_start) => `(tactic| first | decide | omega)
local macro_rules | `(tactic| walk_at "binaryOp Mod int int") => `(tactic| (k_here; (with_reducible refine' m_mod ?b1 ?_); (case b1 => tb_start)))
local macro_rules | `(tactic| walk_at "binaryOp FloorDiv int int") => `(tactic| (k_here; (with_reducible refine' m_fdiv ?b1 ?b2 ?_); (case b1 => tb_start); (case b2 => tb_start)))
local macro_rules | `(tactic| walk_at "binaryOp Add float int") => `(tactic| (k_here; (with_reducible refine' m_add_fi ?hx ?b1 ?b2 ?b3 ?_); (case hx => ktr_rel); (case b1 => tb_start); (case b2 => tb_start); (case b3 => tb_start)))
local macro_rules | `(tactic| walk_at "inplaceOp Add float int") => `(tactic| (k_here; (with_reducible refine' m_iadd_fi ?hA ?hx ?b1 ?b2 ?b3 ?_); (case hA => k_dflt (exact rfl)); (case hx => ktr_rel); (case b1 => tb_start); (case b2 => tb_start); (case b3 => tb_start)))
local macro_rules | `(tactic| walk_at "binaryOp Add int float") => `(tactic| (k_here; (with_reducible refine' m_add_if ?hx ?b1 ?b2 ?b3 ?_); (case hx => ktr_rel); (case b1 => tb_start); (case b2 => tb_start); (case b3 => tb_start)))
local macro_rules | `(tactic| walk_at "binaryOp Sub float int") => `(tactic| (k_here; (with_reducible refine' m_sub_fi ?hx ?b1 ?b2 ?b3 ?_); (case hx => ktr_rel); (case b1 => tb_start); (case b2 => tb_start); (case b3 => tb_start)))
local macro_rules | `(tactic| walk_at "binaryOp Add float float") => `(tactic| (k_here; (with_reducible refine' m_add_ff ?hx ?hy ?b1 ?b2 ?b3 ?_); (case hx => ktr_rel); (case hy => ktr_rel); (case b1 => tb_start); (case b2 => tb_start); (case b3 => tb_start)))
local macro_rules | `(tactic| walk_at "binaryOp Sub float float") => `(tactic| (k_here; (with_reducible refine' m_sub_ff ?hx ?hy ?b1 ?b2 ?b3 ?_); (case hx => ktr_rel); (case hy => ktr_rel); (case b1 => tb_start); (case b2 => tb_start); (case b3 => tb_start)))
local macro_rules | `(tactic| walk_at "binaryOp Div int int") => `(tactic| (k_here; (with_reducible refine' m_div_ii ?hA ?b1 ?b2 ?_); (case hA => k_dflt (exact rfl)); (case b1 => tb_start); (case b2 => tb_start); intro z hz))
local macro_rules | `(tactic| walk_at "binaryOp Div float int") => `(tactic| (k_here; (with_reducible refine' m_div_fi ?hA ?hx ?b1 ?b2 ?b3 ?_); (case hA => k_dflt (exact rfl)); (case hx => ktr_rel); (case b1 => tb_start); (case b2 => tb_start); (case b3 => tb_start); intro z hz))
local macro_rules | `(tactic| walk_at "binaryOp Div float float") => `(tactic| (k_here; (with_reducible refine' m_div_ff ?hA ?hx ?hy ?b1 ?b2 ?b3 ?_); (case hA => k_dflt (exact rfl)); (case hx => ktr_rel); (case hy => ktr_rel); (case b1 => tb_start); (case b2 => tb_start); (case b3 => tb_start); intro z hz))
local macro_rules | `(tactic| walk_at "binaryOp Mod float int") => `(tactic| (k_here; (with_reducible refine' m_mod_fi ?hA ?hx ?b1 ?b2 ?b3 ?_); (case hA => k_dflt (exact rfl)); (case hx => ktr_rel); (case b1 => tb_start); (case b2 => tb_start); (case b3 => tb_start)))
local macro_rules | `(tactic| walk_at "call builtin:math.floor") => `(tactic| (k_here; (with_reducible show wpAny _ _ (call _ [Value.float _ _]) _ _ _); first
  | ((with_reducible refine' m_floor_Q ?hA ?hq ?b1 ?_); (case hA => k_dflt (exact rfl)); (case hq => with_reducible assumption); (case b1 => tb_start))
  | ((with_reducible refine' m_floor ?hA ?hx ?b1 ?_); (case hA => k_dflt (exact rfl)); (case hx => ktr_rel); (case b1 => tb_start))))
local macro_rules | `(tactic| walk_at "call builtin:math.ceil") => `(tactic| (k_here; (with_reducible show wpAny _ _ (call _ [Value.float _ _]) _ _ _); first
  | ((with_reducible refine' m_ceil_Q ?hA ?hq ?b1 ?_); (case hA => k_dflt (exact rfl)); (case hq => with_reducible assumption); (case b1 => tb_start))
  | ((with_reducible refine' m_ceil ?hA ?hx ?b1 ?_); (case hA => k_dflt (exact rfl)); (case hx => ktr_rel); (case b1 => tb_start))))
local macro_rules | `(tactic| walk_at "call type:int") => `(tactic| (k_here; (with_reducible show wpAny _ _ (call _ [Value.float _ _]) _ _ _); (with_reducible refine' m_int ?hA ?hx ?b1 ?b2 ?_); (case hA => k_dflt (exact rfl)); (case hx => ktr_rel); (case b1 => tb_start); (case b2 => tb_start)))
local macro_rules | `(tactic| walk_at "compareOp Gt float float") => `(tactic| (k_here; (with_reducible refine' m_gt_ff ?hx ?hy ?b1 ?b2 ?_); (case hx => ktr_rel); (case hy => ktr_rel); (case b1 => tb_start); (case b2 => tb_start)))
local macro_rules | `(tactic| walk_at "compareOp Lt float float") => `(tactic| (k_here; (with_reducible refine' m_lt_ff ?hx ?hy ?b1 ?b2 ?_); (case hx => ktr_rel); (case hy => ktr_rel); (case b1 => tb_start); (case b2 => tb_start)))
local macro_rules | `(tactic| walk_at "compareOp GtE float float") => `(tactic| (k_here; (with_reducible refine' m_ge_ff ?hx ?hy ?b1 ?b2 ?_); (case hx => ktr_rel); (case hy => ktr_rel); (case b1 => tb_start); (case b2 => tb_start)))
local macro_rules | `(tactic| walk_at "compareOp Lt float int") => `(tactic| (k_here; (with_reducible refine' m_lt_fi ?hx ?b1 ?_); (case hx => ktr_rel); (case b1 => tb_start)))
local macro_rules | `(tactic| walk_at "compareOp Eq float int") => `(tactic| (k_here; (with_reducible refine' m_eq_fi ?hx ?b1 ?_); (case hx => ktr_rel); (case b1 => tb_start)))
local macro_rules | `(tactic| walk_at "compareOp NotEq float int") => `(tactic| (k_here; (with_reducible refine' m_ne_fi ?hx ?b1 ?_); (case hx => ktr_rel); (case b1 => tb_start)))
local macro_rules | `(tactic| walk_at "UnrEnd") => `(tactic| (refine' UnrEnd.intro ?F ?N ?nn ?sub ?off ?_; (case sub => exact fun _ hp => hp); (case F => k_asm); (case N => k_asm); (case off => first | exact off_of (by assumption) | exact offI_of (by assumption)); (try ((refine' ⟨rfl, endF ?e1 ?e2, ?e3⟩); (case e1 => with_unfolding_all rfl); (case e2 => (simp only [accS]; omega)); (case e3 => (intro z h1 h2; simp only [h1, h2, if_false]))))))
local macro_rules | `(tactic| walk_at "binaryOp Mult float int") => `(tactic| (k_here; first
  | ((with_reducible refine' m_mul_fi ?hx ?b1 ?b2 ?b3 ?b4 ?_); (case hx => ktr_rel); (case b1 => tb_start); (case b2 => tb_start); (case b3 => tb_start); (case b4 => tb_start))
  | ((with_reducible refine' m_mul_fi' ?hx ?b1 ?b2 ?b3 ?b4 ?b5 ?_); (case hx => ktr_rel); (case b1 => tb_start); (case b2 => tb_start); (case b3 => tb_start); (case b4 => tb_start); (case b5 => tb_start))))
local macro_rules | `(tactic| walk_at "binaryOp Mult int float") => `(tactic| (k_here; ((with_reducible refine' m_mul_if' ?hx ?b1 ?b2 ?b3 ?b4 ?_); (case hx => ktr_rel); (case b1 => tb_start); (case b2 => tb_start); (case b3 => tb_start); (case b4 => tb_start))))
local macro_rules | `(tactic| walk_at "binaryOp Mult float float") => `(tactic| (k_here; ((with_reducible refine' m_mul_ff ?hx ?hy ?b1 ?b2 ?b3 ?b4 ?_); (case hx => ktr_rel); (case hy => exact lit_num2); (case b1 => tb_start); (case b2 => tb_start); (case b3 => tb_start); (case b4 => tb_start))))
local macro_rules | `(tactic| walk_at "call builtin:divmod") => `(tactic| (k_here; (with_reducible show wpAny _ _ (call (Value.builtin _) [Value.int _ _, Value.int _ _]) _ _ _); (rename Fr _ _ _ _ => dF); (rename News _ _ _ _ => dN); (refine' m_divmod dF dN ?b1 ?b2 ?_; (case b1 => tb_start); (case b2 => tb_start)); intro _ _ _))
set_option maxHeartbeats 8000000
local macro_rules | `(tactic| walk_at "exec While Compare cons nil") => `(tactic| k_extra "exec While Compare cons nil")
local macro_rules | `(tactic| walk_at "exec For Tuple Subscript cons nil") => `(tactic| (k_here; (rename Fr _ _ _ _ => lF'); (with_unfolding_all refine' For_turns lF' ?_; k_whole)))
local macro_rules | `(tactic| walk_at "subscriptTail") => `(tactic| (k_here; (with_reducible show wpAny _ _ (subscriptTail _ _ (Value.ref 163) (Value.int _ _)) _ _ _); k_dflt (refine' item163 ?F ?X ?b1 ?_; (case F => k_asm); (case X => k_asm)); (case b1 => omega); intro t9))
theorem isub_v {prog : Program} {w : World} {A : Around} {E : Value → Shared → Prop} {s : Shared} {Q : Value → Shared → Prop} {a b : Int} {t u : Tok} (h : ∀ v, v = a - b → Q (.int v s.toks) { s with toks := s.toks + 1 }) : wpAny (model prog w) A (inplaceOp .Sub (.int a t) (.int b u)) Q E s := AutoIntOps.isub_0 (h _ rfl)
local macro_rules | `(tactic| walk_at "inplaceOp Sub int int") => `(tactic| (k_here; (with_reducible show wpAny _ _ (inplaceOp _ (Value.int _ _) (Value.int (bef _) _)) _ _ _); (with_reducible refine' isub_v ?_); intro v9 hv9))
local macro_rules | `(tactic| walk_at "call ref") => `(tactic| (k_here; (with_reducible show wpAny _ _ (call (Value.ref 179) _) _ _ _); k_dflt (refine' c_spring _ _ ?k1 ?k2 ?k3 ?k4 ?k5 ?kK ?kp ?kd ?ku ?_; (case k1 => k_asm); (case k2 => k_asm); (case k3 => k_asm); (case k4 => k_asm); (case k5 => k_asm); (case kK => first | exact rfl | assumption); (case kp => first | (with_reducible exact True.intro) | omega | (with_reducible assumption)); (case kd => ktr_room); (case ku => ktr_units); intro t9 h9 tk9 F9 N9; (try dsimp only); (try k_fold))))
local macro_rules | `(tactic| walk_at "call ref") => `(tactic| (k_here; (with_reducible show wpAny _ _ (call (Value.ref 186) _) _ _ _); k_dflt (refine' c_months _ _ ?k1 ?k2 ?k3 ?k4 ?k5 ?kK ?kd ?ku ?_; (case k1 => k_asm); (case k2 => k_asm); (case k3 => k_asm); (case k4 => k_asm); (case k5 => k_asm); (case kK => first | exact rfl | assumption); (case kd => ktr_room); (case ku => ktr_units); intro D9 rs9 news9 h9 tk9 hs9 hM9 F9 N9; (try dsimp only); (try k_fold))))
local macro_rules | `(tactic| walk_at "subscriptTail Name Slice ref ref") => `(tactic| (k_here; (with_reducible show wpAny _ _ (subscriptTail _ (PySem.Expr.Slice _ _ none _) (Value.ref _) (Value.ref _)) _ _ _); k_dflt (refine' sliceM ?F ?N ?M ?hk ?_ ?hs ?ht; (case F => k_asm); (case N => k_asm); (case M => assumption); (case hs => with_unfolding_all rfl); (case ht => kmk_pure)); (case hk => omega); intro D9 h9 F9 N9 l9))
local macro_rules | `(tactic| walk_at "pyIter ref") => `(tactic| (k_here; (with_reducible show wpAny _ _ (pyIter (Value.ref _)) (fun it s₂ => TurnsAt _ _ _ _ _ _ _ _ _ it s₂) _ _); (rename MonthsAt _ _ _ _ => lM); (k_dflt (refine' iter_months (PySem.Str.ofString "month") (PySem.Str.ofString "length") (PySem.Str.ofString "number") ?hh ?F ?N ?hm ?hp ?hy ?_ ?_; (case F => k_asm); (case N => k_asm); (case hm => exact List.Mem.head _); (case hp => exact (lM.prs.mono (fun _ h => List.Mem.tail _ h)).take _); (case hh => exact rfl); (case hy => exact rfl))); (intro I9 a9 p9 t91 t92 b9 m9 h9 tk9 o9 hI9 hacc9 hc9 F9 N9; obtain ⟨u9, t99, e9⟩ := AccM.at3 hacc9; subst e9); rotate_left; (intro m9 h9 tk9 hacc9 F9 N9; obtain ⟨u9, t99, e9⟩ := AccM.at3 hacc9; subst e9); rotate_left))
local macro_rules | `(tactic| walk_at "subscriptTail Name Name ref int") => `(tactic| k_extra "subscriptTail Name Name ref int")
theorem MonthsAt.cast {sz sz' : Int} {D : Addr} {rs : List Value} {l : List (Addr × Obj)} (h : MonthsAt sz D rs l) (e : sz = sz') : MonthsAt sz' D rs l := e ▸ h
theorem c_month (n : Int) (t : Tok) : ∀ {prog : Program} {w : World} {p : Program} {loose : List Str} {mean : ExcName → Option Value} {mg mb : Str → Option Value} {news : List (Addr × Obj)}
    {dp un : Nat} {gd : Option (List Code)} {cn : Str} {cs : Scope} {a : Addr} {ccd : Value} {cl : List (Str × Addr)} {outer : List Env} {A₀ : Around} {base h₀ : Heap} {L : Addr} {m : Str → Option Value} {s : Shared} {Q E : Value → Shared → Prop},
    Below A₀ base outer h₀ → Fr h₀ L s.heap m → (hd.heap_39 w.params).In h₀ → News h₀ L s.heap news → Top p loose mean mg mb h₀ → cs.kind = .function →
    (0 ≤ n ∧ n < 1000000000) → (0 ≤ n % 235 - bef ((19 * (n % 235) + 17) / 235) ∧ n % 235 - bef ((19 * (n % 235) + 17) / 235) < (monthsOf (szOf n)).length) → dp + 4 < recursionLimit → un + 8 * 4 < cLine →
    (∀ (y9 m9 n9 l9 : Int), y9 = 19 * (n / 235) + (19 * (n % 235) + 17) / 235 + 1 → MonthIs n m9 n9 l9 → ∀ (t1 t2 t3 t4 : Tok) (q : Addr) (h' : Heap) (tk' : Nat), Fr h₀ L h' m → News h₀ L h' ((q, tup4 y9 m9 n9 l9 t1 t2 t3 t4) :: news) → Q (.ref q) { s with heap := h', toks := tk' }) →
    wpAny (model prog w) (ktrTop dp un gd cn cs L a ccd cl outer) (call (.ref 193) [.int n t]) Q E s := by
  intros
  rename_i hpre hpre2 _ _ hret
  k_with_none
  k_with "exec While Compare cons nil" => ((rename Fr _ _ _ _ => lF); (rename News _ _ _ _ => lN); k_dflt (refine' while1 (x1 := PySem.Str.ofString "past") ((19 * (n % 235) + 17) / 235) ?hE lF lN ?g1 ?hab ?_ ?_ ?_; (case g1 => rfl); (case hE => first | passes_own | with_unfolding_all passes_own)); (case hab => omega); intro k9 t19 h9 tk9 hk9 F9 N9; rotate_left; intro k9 t19 h9 tk9 hk9 F9 N9; rotate_left; intro t19 h9 tk9 F9 N9; rotate_left)
  k_with "subscriptTail Name Name ref int" => ((with_reducible show wpAny _ _ (subscriptTail _ _ (Value.ref _) (Value.int _ _)) _ _ _); (rename MonthsAt _ _ _ _ => lM); (have lM := MonthsAt.cast (sz' := szOf n) lM (by unfold szOf yrOf; simp only [Int.add_sub_cancel])); (k_dflt (refine' itemM ?N ?M ?hk ?_; (case N => k_asm); (case M => first | exact lM.mono (fun _ h => List.Mem.tail _ h) | exact lM.mono (fun _ h => List.Mem.tail _ (List.Mem.tail _ h))))); (case hk => (constructor <;> omega)); intro a9 t19 t29 N9)
  refine wpAny_call ?_
  k_dflt cell_enter
  k_steps
  all_goals try (first
    | (refine testEnd_intro (by k_asm) (by k_asm) ?_; exact decide_eq_decide.mpr (by unfold bef; omega))
    | (refine' body1_intro ?F ?N ?e1 ?e3; (case F => k_asm); (case N => k_asm); (case e1 => with_unfolding_all rfl); (case e3 => (intro z h1; simp only [at1, h1, if_false])))
    | (refine' endW ?F ?N ?hI ?hs ?hoff ?e1 ?e2 ?e3; (case F => k_asm); (case N => k_asm); (case hI => exact List.Mem.head _); (case hs => exact fun _ h => List.Mem.tail _ (List.Mem.tail _ h)); (case hoff => assumption); (case e1 => with_unfolding_all rfl); (case e2 => rfl); (case e3 => (intro z h1 h2 h3; simp only [at3, h1, h2, h3, if_false]))))
  rename (∀ p ∈ _, p ∈ _) => hs
  rename News _ _ _ _ => lN
  refine hret _ _ _ _ ?_ ?_ _ _ _ _ _ _ _ (by k_asm) (News.headSub lN fun p hp => .tail _ (.tail _ (.tail _ (hs _ (.tail _ hp)))))
  · first | rfl | omega
  · rename (_ = n % 235 - bef _) => hv9
    unfold MonthIs
    simp only [Int.add_sub_cancel]
    rw [hv9]
    exact ⟨rfl, rfl, rfl⟩
end Mine
end
section
open PySem PySem.W PyProof.Rows
set_option maxRecDepth 100000
namespace Mine
theorem resetMWC : True := by
  w_top off
  k_with_none
  trivial
local macro_rules | `(tactic| ktr_rel) => `(tactic| first | (with_reducible exact rfl) | exact lit_g | exact lit_h | exact lit_i | exact lit_half | exact lit_295 | exact lit_num | exact lit_den)
local macro_rules | `(tactic| tb_start) => `(tactic| first | decide | omega)
local macro_rules | `(tactic| walk_at "binaryOp Mod int int") => `(tactic| (k_here; (with_reducible refine' m_mod ?b1 ?_); (case b1 => tb_start)))
local macro_rules | `(tactic| walk_at "binaryOp FloorDiv int int") => `(tactic| (k_here; (with_reducible refine' m_fdiv ?b1 ?b2 ?_); (case b1 => tb_start); (case b2 => tb_start)))
local macro_rules | `(tactic| walk_at "binaryOp Add float int") => `(tactic| (k_here; (with_reducible refine' m_add_fi ?hx ?b1 ?b2 ?b3 ?_); (case hx => ktr_rel); (case b1 => tb_start); (case b2 => tb_start); (case b3 => tb_start)))
local macro_rules | `(tactic| walk_at "inplaceOp Add float int") => `(tactic| (k_here; (with_reducible refine' m_iadd_fi ?hA ?hx ?b1 ?b2 ?b3 ?_); (case hA => k_dflt (exact rfl)); (case hx => ktr_rel); (case b1 => tb_start); (case b2 => tb_start); (case b3 => tb_start)))
local macro_rules | `(tactic| walk_at "binaryOp Add int float") => `(tactic| (k_here; (with_reducible refine' m_add_if ?hx ?b1 ?b2 ?b3 ?_); (case hx => ktr_rel); (case b1 => tb_start); (case b2 => tb_start); (case b3 => tb_start)))
local macro_rules | `(tactic| walk_at "binaryOp Sub float int") => `(tactic| (k_here; (with_reducible refine' m_sub_fi ?hx ?b1 ?b2 ?b3 ?_); (case hx => ktr_rel); (case b1 => tb_start); (case b2 => tb_start); (case b3 => tb_start)))
local macro_rules | `(tactic| walk_at "binaryOp Add float float") => `(tactic| (k_here; (with_reducible refine' m_add_ff ?hx ?hy ?b1 ?b2 ?b3 ?_); (case hx => ktr_rel); (case hy => ktr_rel); (case b1 => tb_start); (case b2 => tb_start); (case b3 => tb_start)))
local macro_rules | `(tactic| walk_at "binaryOp Sub float float") => `(tactic| (k_here; (with_reducible refine' m_sub_ff ?hx ?hy ?b1 ?b2 ?b3 ?_); (case hx => ktr_rel); (case hy => ktr_rel); (case b1 => tb_start); (case b2 => tb_start); (case b3 => tb_start)))
local macro_rules | `(tactic| walk_at "binaryOp Div int int") => `(tactic| (k_here; (with_reducible refine' m_div_ii ?hA ?b1 ?b2 ?_); (case hA => k_dflt (exact rfl)); (case b1 => tb_start); (case b2 => tb_start); intro z hz))
local macro_rules | `(tactic| walk_at "binaryOp Div float int") => `(tactic| (k_here; (with_reducible refine' m_div_fi ?hA ?hx ?b1 ?b2 ?b3 ?_); (case hA => k_dflt (exact rfl)); (case hx => ktr_rel); (case b1 => tb_start); (case b2 => tb_start); (case b3 => tb_start); intro z hz))
local macro_rules | `(tactic| walk_at "binaryOp Div float float") => `(tactic| (k_here; (with_reducible refine' m_div_ff ?hA ?hx ?hy ?b1 ?b2 ?b3 ?_); (case hA => k_dflt (exact rfl)); (case hx => ktr_rel); (case hy => ktr_rel); (case b1 => tb_start); (case b2 => tb_start); (case b3 => tb_start); intro z hz))
local macro_rules | `(tactic| walk_at "binaryOp Mod float int") => `(tactic| (k_here; (with_reducible refine' m_mod_fi ?hA ?hx ?b1 ?b2 ?b3 ?_); (case hA => k_dflt (exact rfl)); (case hx => ktr_rel); (case b1 => tb_start); (case b2 => tb_start); (case b3 => tb_start)))
local macro_rules | `(tactic| walk_at "call builtin:math.floor") => `(tactic| (k_here; (with_reducible show wpAny _ _ (call _ [Value.float _ _]) _ _ _); first
  | ((with_reducible refine' m_floor_Q ?hA ?hq ?b1 ?_); (case hA => k_dflt (exact rfl)); (case hq => with_reducible assumption); (case b1 => tb_start))
  | ((with_reducible refine' m_floor ?hA ?hx ?b1 ?_); (case hA => k_dflt (exact rfl)); (case hx => ktr_rel); (case b1 => tb_start))))
local macro_rules | `(tactic| walk_at "call builtin:math.ceil") => `(tactic| (k_here; (with_reducible show wpAny _ _ (call _ [Value.float _ _]) _ _ _); first
  | ((with_reducible refine' m_ceil_Q ?hA ?hq ?b1 ?_); (case hA => k_dflt (exact rfl)); (case hq => with_reducible assumption); (case b1 => tb_start))
  | ((with_reducible refine' m_ceil ?hA ?hx ?b1 ?_); (case hA => k_dflt (exact rfl)); (case hx => ktr_rel); (case b1 => tb_start))))
local macro_rules | `(tactic| walk_at "call type:int") => `(tactic| (k_here; (with_reducible show wpAny _ _ (call _ [Value.float _ _]) _ _ _); (with_reducible refine' m_int ?hA ?hx ?b1 ?b2 ?_); (case hA => k_dflt (exact rfl)); (case hx => ktr_rel); (case b1 => tb_start); (case b2 => tb_start)))
local macro_rules | `(tactic| walk_at "compareOp Gt float float") => `(tactic| (k_here; (with_reducible refine' m_gt_ff ?hx ?hy ?b1 ?b2 ?_); (case hx => ktr_rel); (case hy => ktr_rel); (case b1 => tb_start); (case b2 => tb_start)))
local macro_rules | `(tactic| walk_at "compareOp Lt float float") => `(tactic| (k_here; (with_reducible refine' m_lt_ff ?hx ?hy ?b1 ?b2 ?_); (case hx => ktr_rel); (case hy => ktr_rel); (case b1 => tb_start); (case b2 => tb_start)))
local macro_rules | `(tactic| walk_at "compareOp GtE float float") => `(tactic| (k_here; (with_reducible refine' m_ge_ff ?hx ?hy ?b1 ?b2 ?_); (case hx => ktr_rel); (case hy => ktr_rel); (case b1 => tb_start); (case b2 => tb_start)))
local macro_rules | `(tactic| walk_at "compareOp Lt float int") => `(tactic| (k_here; (with_reducible refine' m_lt_fi ?hx ?b1 ?_); (case hx => ktr_rel); (case b1 => tb_start)))
local macro_rules | `(tactic| walk_at "compareOp Eq float int") => `(tactic| (k_here; (with_reducible refine' m_eq_fi ?hx ?b1 ?_); (case hx => ktr_rel); (case b1 => tb_start)))
local macro_rules | `(tactic| walk_at "compareOp NotEq float int") => `(tactic| (k_here; (with_reducible refine' m_ne_fi ?hx ?b1 ?_); (case hx => ktr_rel); (case b1 => tb_start)))
local macro_rules | `(tactic| walk_at "UnrEnd") => `(tactic| (refine' UnrEnd.intro ?F ?N ?nn ?sub ?off ?_; (case sub => exact fun _ hp => hp); (case F => k_asm); (case N => k_asm); (case off => first | exact off_of (by assumption) | exact offI_of (by assumption)); (try ((refine' ⟨rfl, endF ?e1 ?e2, ?e3⟩); (case e1 => with_unfolding_all rfl); (case e2 => (simp only [accS]; omega)); (case e3 => (intro z h1 h2; simp only [h1, h2, if_false]))))))
local macro_rules | `(tactic| walk_at "binaryOp Mult float int") => `(tactic| (k_here; first
  | ((with_reducible refine' m_mul_fi ?hx ?b1 ?b2 ?b3 ?b4 ?_); (case hx => ktr_rel); (case b1 => tb_start); (case b2 => tb_start); (case b3 => tb_start); (case b4 => tb_start))
  | ((with_reducible refine' m_mul_fi' ?hx ?b1 ?b2 ?b3 ?b4 ?b5 ?_); (case hx => ktr_rel); (case b1 => tb_start); (case b2 => tb_start); (case b3 => tb_start); (case b4 => tb_start); (case b5 => tb_start))))
local macro_rules | `(tactic| walk_at "binaryOp Mult int float") => `(tactic| (k_here; ((with_reducible refine' m_mul_if' ?hx ?b1 ?b2 ?b3 ?b4 ?_); (case hx => ktr_rel); (case b1 => tb_start); (case b2 => tb_start); (case b3 => tb_start); (case b4 => tb_start))))
local macro_rules | `(tactic| walk_at "binaryOp Mult float float") => `(tactic| (k_here; ((with_reducible refine' m_mul_ff ?hx ?hy ?b1 ?b2 ?b3 ?b4 ?_); (case hx => ktr_rel); (case hy => exact lit_num2); (case b1 => tb_start); (case b2 => tb_start); (case b3 => tb_start); (case b4 => tb_start))))
local macro_rules | `(tactic| walk_at "call builtin:divmod") => `(tactic| (k_here; (with_reducible show wpAny _ _ (call (Value.builtin _) [Value.int _ _, Value.int _ _]) _ _ _); (rename Fr _ _ _ _ => dF); (rename News _ _ _ _ => dN); (refine' m_divmod dF dN ?b1 ?b2 ?_; (case b1 => tb_start); (case b2 => tb_start)); intro _ _ _))
set_option maxHeartbeats 8000000
local macro_rules | `(tactic| walk_at "binaryOp Add int int") => `(tactic| ((with_reducible refine add_int ?_); (try dsimp only)))
local macro_rules | `(tactic| walk_at "binaryOp Mult int int") => `(tactic| ((with_reducible refine mul_int ?_); (try dsimp only)))
local macro_rules | `(tactic| walk_at "binaryOp Sub int int") => `(tactic| ((with_reducible refine sub_int ?_); (try dsimp only)))
local macro_rules | `(tactic| walk_at "inplaceOp Sub int int") => `(tactic| (k_here; (with_reducible refine' isub_s ?_); intro v9 hv9))
local macro_rules | `(tactic| walk_at "call builtin:divmod") => `(tactic| (k_here; (with_reducible show wpAny _ _ (call (Value.builtin _) [Value.int _ _, Value.int _ _]) _ _ _); (rename Fr _ _ _ _ => dF); (rename News _ _ _ _ => dN); (refine' divmod_s dF dN ?b1 ?b2 ?_; (case b1 => tb_start); (case b2 => tb_start)); intro x9 y9 hx9 _ _ _))
local macro_rules | `(tactic| walk_at "call builtin:min") => `(tactic| (k_here; (with_reducible show wpAny _ _ (call (Value.builtin _) [Value.int _ _, Value.int _ _]) _ _ _); (rename Fr _ _ _ _ => dF); (rename News _ _ _ _ => dN); (refine' min_s ?hh dF dN ?_; (case hh => with_unfolding_all rfl)); intro r9 v9 h9 tk9 hr9 F9 N9; (try k_sweep)))
local macro_rules | `(tactic| walk_at "spliced") => `(tactic| (k_here; (with_reducible show wpAny _ _ (spliced (backTo _ (starEach (PySem.Expr.Constant _ _ _ :: PySem.Expr.Constant _ _ _ :: PySem.Expr.Constant _ _ _ :: PySem.Expr.Constant _ _ _ :: _) _))) _ _ _); (refine' spliced_ints _ [31, 30, 31, 30, 31, 31, 30, 31, 30, 31, 31] _ _ ?l ?_; (case l => with_unfolding_all rfl))))
local macro_rules | `(tactic| walk_at "BrkC") => `(tactic| (refine' brkC ?F ?N ?p ?e1 ?e2 ?e3; (case F => k_asm); (case N => k_asm); (case p => assumption); (case e1 => with_unfolding_all rfl); (case e2 => with_unfolding_all rfl); (case e3 => (intro q h1 h2 h3; simp only [atC, h1, h2, h3, if_false]))))
local macro_rules | `(tactic| walk_at "UnrEndW") => `(tactic| (refine' endC ?F ?N ?o ?p ?e1 ?ha ?e2 ?hc ?e3; (case F => k_asm); (case N => k_asm); (case o => assumption); (case p => assumption); (case e1 => with_unfolding_all rfl); (case e2 => with_unfolding_all rfl); (case ha => exact SubIs.eq (by assumption)); (case hc => rfl); (case e3 => (intro q h1 h2 h3; simp only [atC, h1, h2, h3, if_false]))))
local macro_rules | `(tactic| walk_at "exec For Name Tuple cons nil") => `(tactic| (k_here; (rename Fr _ _ _ _ => lF'); (with_unfolding_all refine' For_turns lF' ?_; k_whole)))
local macro_rules | `(tactic| walk_at "pyIter ref") => `(tactic| (k_here; (with_reducible show wpAny _ _ (pyIter (Value.ref _)) (fun it s₂ => TurnsAt _ _ _ _ _ _ _ _ _ it s₂) _ _); (k_dflt (refine' iter_run (ks := [31, 30, 31, 30, 31, 31, 30, 31, 30, 31, 31]) (PySem.Str.ofString "length") (PySem.Str.ofString "left") (PySem.Str.ofString "month") ?hh ?F ?N ?hm ?hcl ?hd ?hi ?hy ?hz ?_ ?_; (case F => k_asm); (case N => k_asm); (case hm => k_mem); (case hcl => exact rfl); (case hd => exact rfl); (case hi => exact litVals_are _ _); (case hh => exact rfl); (case hy => exact rfl); (case hz => exact rfl))); (intro I9 k9 t9 a9 c9 m9 h9 tk9 o9 hI9 hacc9 hc9 F9 N9; obtain ⟨u9, t99, t98, e9⟩ := AccC.at hacc9; subst e9); rotate_left; (intro a9 c9 m9 h9 tk9 hr9 hacc9 F9 N9; obtain ⟨u9, t99, t98, e9⟩ := AccC.at hacc9; subst e9); rotate_left))
theorem c_civil (n : Int) (t : Tok) : ClT 205 2 (300000 ≤ n ∧ n ≤ 32000000000) [.int n t] (fun y9 m9 d9 => IsDate (n - 1) y9 m9 d9) := by
  unfold ClT
  intros
  rename_i hpre _ _ hret
  refine wpAny_call ?_
  k_dflt cell_enter
  k_steps
  all_goals (refine flipT hret (News.headSub (by k_asm) (by intro p9 hp9; repeat (first | exact hp9 | apply List.Mem.tail))) (by k_asm) ?_)
  all_goals first
    | exact (run_civ (march_s (by assumption) (by assumption) (by assumption) (by assumption) (by assumption) (by assumption)) hpre (by assumption)).1 (by assumption)
    | exact (run_civ (march_s (by assumption) (by assumption) (by assumption) (by assumption) (by assumption) (by assumption)) hpre (by assumption)).2 (by assumption)
end Mine
end
section
open PySem PySem.W PyProof.Rows
set_option maxRecDepth 100000
namespace Mine
theorem resetMWD : True := by
  w_top off
  k_with_none
  trivial
local macro_rules | `(tactic| ktr_rel) => `(tactic| first | (with_reducible exact rfl) | exact lit_g | exact lit_h | exact lit_i | exact lit_half | exact lit_295 | exact lit_num | exact lit_den)
local macro_rules | `(tactic| tb_start) => `(tactic| first | decide | omega)
local macro_rules | `(tactic| walk_at "binaryOp Mod int int") => `(tactic| (k_here; (with_reducible refine' m_mod ?b1 ?_); (case b1 => tb_start)))
local macro_rules | `(tactic| walk_at "binaryOp FloorDiv int int") => `(tactic| (k_here; (with_reducible refine' m_fdiv ?b1 ?b2 ?_); (case b1 => tb_start); (case b2 => tb_start)))
local macro_rules | `(tactic| walk_at "binaryOp Add float int") => `(tactic| (k_here; (with_reducible refine' m_add_fi ?hx ?b1 ?b2 ?b3 ?_); (case hx => ktr_rel); (case b1 => tb_start); (case b2 => tb_start); (case b3 => tb_start)))
local macro_rules | `(tactic| walk_at "inplaceOp Add float int") => `(tactic| (k_here; (with_reducible refine' m_iadd_fi ?hA ?hx ?b1 ?b2 ?b3 ?_); (case hA => k_dflt (exact rfl)); (case hx => ktr_rel); (case b1 => tb_start); (case b2 => tb_start); (case b3 => tb_start)))
local macro_rules | `(tactic| walk_at "binaryOp Add int float") => `(tactic| (k_here; (with_reducible refine' m_add_if ?hx ?b1 ?b2 ?b3 ?_); (case hx => ktr_rel); (case b1 => tb_start); (case b2 => tb_start); (case b3 => tb_start)))
local macro_rules | `(tactic| walk_at "binaryOp Sub float int") => `(tactic| (k_here; (with_reducible refine' m_sub_fi ?hx ?b1 ?b2 ?b3 ?_); (case hx => ktr_rel); (case b1 => tb_start); (case b2 => tb_start); (case b3 => tb_start)))
local macro_rules | `(tactic| walk_at "binaryOp Add float float") => `(tactic| (k_here; (with_reducible refine' m_add_ff ?hx ?hy ?b1 ?b2 ?b3 ?_); (case hx => ktr_rel); (case hy => ktr_rel); (case b1 => tb_start); (case b2 => tb_start); (case b3 => tb_start)))
local macro_rules | `(tactic| walk_at "binaryOp Sub float float") => `(tactic| (k_here; (with_reducible refine' m_sub_ff ?hx ?hy ?b1 ?b2 ?b3 ?_); (case hx => ktr_rel); (case hy => ktr_rel); (case b1 => tb_start); (case b2 => tb_start); (case b3 => tb_start)))
local macro_rules | `(tactic| walk_at "binaryOp Div int int") => `(tactic| (k_here; (with_reducible refine' m_div_ii ?hA ?b1 ?b2 ?_); (case hA => k_dflt (exact rfl)); (case b1 => tb_start); (case b2 => tb_start); intro z hz))
local macro_rules | `(tactic| walk_at "binaryOp Div float int") => `(tactic| (k_here; (with_reducible refine' m_div_fi ?hA ?hx ?b1 ?b2 ?b3 ?_); (case hA => k_dflt (exact rfl)); (case hx => ktr_rel); (case b1 => tb_start); (case b2 => tb_start); (case b3 => tb_start); intro z hz))
local macro_rules | `(tactic| walk_at "binaryOp Div float float") => `(tactic| (k_here; (with_reducible refine' m_div_ff ?hA ?hx ?hy ?b1 ?b2 ?b3 ?_); (case hA => k_dflt (exact rfl)); (case hx => ktr_rel); (case hy => ktr_rel); (case b1 => tb_start); (case b2 => tb_start); (case b3 => tb_start); intro z hz))
local macro_rules | `(tactic| walk_at "binaryOp Mod float int") => `(tactic| (k_here; (with_reducible refine' m_mod_fi ?hA ?hx ?b1 ?b2 ?b3 ?_); (case hA => k_dflt (exact rfl)); (case hx => ktr_rel); (case b1 => tb_start); (case b2 => tb_start); (case b3 => tb_start)))
local macro_rules | `(tactic| walk_at "call builtin:math.floor") => `(tactic| (k_here; (with_reducible show wpAny _ _ (call _ [Value.float _ _]) _ _ _); first
  | ((with_reducible refine' m_floor_Q ?hA ?hq ?b1 ?_); (case hA => k_dflt (exact rfl)); (case hq => with_reducible assumption); (case b1 => tb_start))
  | ((with_reducible refine' m_floor ?hA ?hx ?b1 ?_); (case hA => k_dflt (exact rfl)); (case hx => ktr_rel); (case b1 => tb_start))))
local macro_rules | `(tactic| walk_at "call builtin:math.ceil") => `(tactic| (k_here; (with_reducible show wpAny _ _ (call _ [Value.float _ _]) _ _ _); first
  | ((with_reducible refine' m_ceil_Q ?hA ?hq ?b1 ?_); (case hA => k_dflt (exact rfl)); (case hq => with_reducible assumption); (case b1 => tb_start))
  | ((with_reducible refine' m_ceil ?hA ?hx ?b1 ?_); (case hA => k_dflt (exact rfl)); (case hx => ktr_rel); (case b1 => tb_start))))
local macro_rules | `(tactic| walk_at "call type:int") => `(tactic| (k_here; (with_reducible show wpAny _ _ (call _ [Value.float _ _]) _ _ _); (with_reducible refine' m_int ?hA ?hx ?b1 ?b2 ?_); (case hA => k_dflt (exact rfl)); (case hx => ktr_rel); (case b1 => tb_start); (case b2 => tb_start)))
local macro_rules | `(tactic| walk_at "compareOp Gt float float") => `(tactic| (k_here; (with_reducible refine' m_gt_ff ?hx ?hy ?b1 ?b2 ?_); (case hx => ktr_rel); (case hy => ktr_rel); (case b1 => tb_start); (case b2 => tb_start)))
local macro_rules | `(tactic| walk_at "compareOp Lt float float") => `(tactic| (k_here; (with_reducible refine' m_lt_ff ?hx ?hy ?b1 ?b2 ?_); (case hx => ktr_rel); (case hy => ktr_rel); (case b1 => tb_start); (case b2 => tb_start)))
local macro_rules | `(tactic| walk_at "compareOp GtE float float") => `(tactic| (k_here; (with_reducible refine' m_ge_ff ?hx ?hy ?b1 ?b2 ?_); (case hx => ktr_rel); (case hy => ktr_rel); (case b1 => tb_start); (case b2 => tb_start)))
local macro_rules | `(tactic| walk_at "compareOp Lt float int") => `(tactic| (k_here; (with_reducible refine' m_lt_fi ?hx ?b1 ?_); (case hx => ktr_rel); (case b1 => tb_start)))
local macro_rules | `(tactic| walk_at "compareOp Eq float int") => `(tactic| (k_here; (with_reducible refine' m_eq_fi ?hx ?b1 ?_); (case hx => ktr_rel); (case b1 => tb_start)))
local macro_rules | `(tactic| walk_at "compareOp NotEq float int") => `(tactic| (k_here; (with_reducible refine' m_ne_fi ?hx ?b1 ?_); (case hx => ktr_rel); (case b1 => tb_start)))
local macro_rules | `(tactic| walk_at "UnrEnd") => `(tactic| (refine' UnrEnd.intro ?F ?N ?nn ?sub ?off ?_; (case sub => exact fun _ hp => hp); (case F => k_asm); (case N => k_asm); (case off => first | exact off_of (by assumption) | exact offI_of (by assumption)); (try ((refine' ⟨rfl, endF ?e1 ?e2, ?e3⟩); (case e1 => with_unfolding_all rfl); (case e2 => (simp only [accS]; omega)); (case e3 => (intro z h1 h2; simp only [h1, h2, if_false]))))))
local macro_rules | `(tactic| walk_at "binaryOp Mult float int") => `(tactic| (k_here; first
  | ((with_reducible refine' m_mul_fi ?hx ?b1 ?b2 ?b3 ?b4 ?_); (case hx => ktr_rel); (case b1 => tb_start); (case b2 => tb_start); (case b3 => tb_start); (case b4 => tb_start))
  | ((with_reducible refine' m_mul_fi' ?hx ?b1 ?b2 ?b3 ?b4 ?b5 ?_); (case hx => ktr_rel); (case b1 => tb_start); (case b2 => tb_start); (case b3 => tb_start); (case b4 => tb_start); (case b5 => tb_start))))
local macro_rules | `(tactic| walk_at "binaryOp Mult int float") => `(tactic| (k_here; ((with_reducible refine' m_mul_if' ?hx ?b1 ?b2 ?b3 ?b4 ?_); (case hx => ktr_rel); (case b1 => tb_start); (case b2 => tb_start); (case b3 => tb_start); (case b4 => tb_start))))
local macro_rules | `(tactic| walk_at "binaryOp Mult float float") => `(tactic| (k_here; ((with_reducible refine' m_mul_ff ?hx ?hy ?b1 ?b2 ?b3 ?b4 ?_); (case hx => ktr_rel); (case hy => exact lit_num2); (case b1 => tb_start); (case b2 => tb_start); (case b3 => tb_start); (case b4 => tb_start))))
local macro_rules | `(tactic| walk_at "call builtin:divmod") => `(tactic| (k_here; (with_reducible show wpAny _ _ (call (Value.builtin _) [Value.int _ _, Value.int _ _]) _ _ _); (rename Fr _ _ _ _ => dF); (rename News _ _ _ _ => dN); (refine' m_divmod dF dN ?b1 ?b2 ?_; (case b1 => tb_start); (case b2 => tb_start)); intro _ _ _))
set_option maxHeartbeats 8000000
local macro_rules | `(tactic| walk_at "inplaceOp Sub int int") => `(tactic| (k_here; (with_reducible refine' isub_w ?_); intro v9 hv9))
local macro_rules | `(tactic| walk_at "call builtin:divmod") => `(tactic| (k_here; (with_reducible show wpAny _ _ (call (Value.builtin _) [Value.int _ _, Value.int _ _]) _ _ _); (rename Fr _ _ _ _ => dF); (rename News _ _ _ _ => dN); (refine' divmod_v dF dN ?b1 ?b2 ?_; (case b1 => tb_start); (case b2 => tb_start)); intro x9 y9 hx9 hy9 _ _ _))
local macro_rules | `(tactic| walk_at "storeName") => `(tactic| (k_here; (k_dflt (refine' storeC_only ?F ?N ?c ?m ?hs ?hoff ?d ?_ ?a ?b; (case a => rfl); (case b => rfl); (case F => k_asm); (case N => k_asm); (case c => rfl); (case m => k_mem); (case hoff => exact lt_off1 (by assumption)); (case hs => (intro p9 hp9; repeat (first | exact hp9 | apply List.Mem.tail))); (case d => k_asm); k_whole; intro h' o' F' N' d'; (try dsimp only at N'); (try k_sweep)))))
local macro_rules | `(tactic| walk_at "eval IfExp") => `(tactic| (k_here; with_reducible refine' ifexp_iw ?_))
local macro_rules | `(tactic| walk_at "forall") => `(tactic| (k_here; (with_reducible show ∀ v, v = (if _ then _ else _) → _); intro v9 hv9))
local macro_rules | `(tactic| walk_at "compareOp In int ref") => `(tactic| (k_here; (with_reducible show wpAny _ _ (compareOp CmpOp.In (Value.int _ _) (Value.ref 164)) _ _ _); k_dflt (refine' in164 ?F ?X ?_; (case F => k_asm); (case X => k_asm))))
local macro_rules | `(tactic| walk_at "eval ListComp") => `(tactic| (k_here; (k_dflt (refine ListComp_tup (F₀ := by k_asm) (by with_unfolding_all rfl) (by decide) (by rfl) (by decide) (by rfl) (by decide) ?_))))
local macro_rules | `(tactic| walk_at "call builtin:len") => `(tactic| (k_here; (with_reducible show wpAny _ _ (call (Value.builtin "len") [Value.ref _]) _ _ _); (k_dflt (refine' KM.len_K ?N ?m ?s ?f ?_; (case N => k_asm); (case m => exact List.Mem.head _); (case s => exact List.size_toArray); (case f => omega)))))
local macro_rules | `(tactic| walk_at "TupSrc") => `(tactic| (k_here; (k_dflt (refine' tupsrc_long ?hd ?hh ?F ?X ?N ?hp ?_ ?_; (case hd => assumption); (case hh => rfl); (case F => k_asm); (case X => k_asm); (case N => k_asm))); (case hp => omega); intro k9 t9 I9 oI9 C9 oC9 D9 oD9 m29 h9 tk9 E9 hC9 hx9 F9 N9; rotate_left; intro D9 ys9 h9 tk9 hl9 F9 N9))
theorem c_isl (n : Int) (t : Tok) : ClT 198 2 (300000 ≤ n ∧ n ≤ 32000000000) [.int n t] (fun y9 m9 d9 => IsIsl (n - 1) y9 m9 d9) := by
  unfold ClT
  intros
  rename_i hpre _ _ hret
  refine wpAny_call ?_
  k_dflt (refine' code_defC ?k1 ?k2 ?k3 ?k4 ?k5 ?kA ?kF ?kK ?k6 ?k7 ?k8 ?k9 ?kB ?kD ?_ ?c2 ?c3 ?c4; (case kA => exact rfl); (case kF => exact rfl); (case kK => assumption); (case k1 => k_asm); (case k2 => k_asm); (case k3 => k_asm); (case k4 => k_asm); (case k5 => k_asm); (case k6 => k_is); (case k7 => k_is); (case k8 => ktr_room); (case k9 => exact BindsTo.of_eq rfl); (case kB => exact rfl); (case kD => decide +kernel); (case c2 => exact rfl); (case c3 => exact rfl); (case c4 => exact rfl); k_whole; intro g' L' h' tk' cells' FG' F' N' Y' B' X' T' l1; k_cells Y'; (try simp only [List.cons_append, List.nil_append] at N'); (try dsimp only); (try k_lift B'); (try k_fold))
  k_steps
  all_goals try (refine testOut_intro (by k_asm) (by k_asm) ?_; rfl)
  all_goals (refine flipT hret (News.headSub (by k_asm) (by intro p9 hp9; repeat (first | exact hp9 | apply List.Mem.tail))) (by k_asm) ?_)
  all_goals (rename (_ = if (List.any _ _) = true then _ else _) => hv)
  all_goals (have hL := long_step' (by omega) hv)
  all_goals first
    | exact isl_a hpre (by with_reducible assumption) (by with_reducible assumption) (by assumption) (by omega) (by omega) (by omega) (by omega) (by omega)
    | exact isl_b hpre (by with_reducible assumption) (by with_reducible assumption) (by assumption) (by omega) (by omega) (by omega) (by omega) (by omega)
end Mine
end
section
open PySem PySem.W PyProof.Rows
set_option maxRecDepth 100000
namespace Mine
theorem resetMWE : True := by
  w_top off
  k_with_none
  trivial
local macro_rules | `(tactic| ktr_rel) => `(tactic| first | (with_reducible exact rfl) | exact lit_g | exact lit_h | exact lit_i | exact lit_half | exact lit_295 | exact lit_num | exact lit_den)
local macro_rules | `(tactic| tb_start) => `(tactic| first | decide | omega)
local macro_rules | `(tactic| walk_at "binaryOp Mod int int") => `(tactic| (k_here; (with_reducible refine' m_mod ?b1 ?_); (case b1 => tb_start)))
local macro_rules | `(tactic| walk_at "binaryOp FloorDiv int int") => `(tactic| (k_here; (with_reducible refine' m_fdiv ?b1 ?b2 ?_); (case b1 => tb_start); (case b2 => tb_start)))
local macro_rules | `(tactic| walk_at "binaryOp Add float int") => `(tactic| (k_here; (with_reducible refine' m_add_fi ?hx ?b1 ?b2 ?b3 ?_); (case hx => ktr_rel); (case b1 => tb_start); (case b2 => tb_start); (case b3 => tb_start)))
local macro_rules | `(tactic| walk_at "inplaceOp Add float int") => `(tactic| (k_here; (with_reducible refine' m_iadd_fi ?hA ?hx ?b1 ?b2 ?b3 ?_); (case hA => k_dflt (exact rfl)); (case hx => ktr_rel); (case b1 => tb_start); (case b2 => tb_start); (case b3 => tb_start)))
local macro_rules | `(tactic| walk_at "binaryOp Add int float") => `(tactic| (k_here; (with_reducible refine' m_add_if ?hx ?b1 ?b2 ?b3 ?_); (case hx => ktr_rel); (case b1 => tb_start); (case b2 => tb_start); (case b3 => tb_start)))
local macro_rules | `(tactic| walk_at "binaryOp Sub float int") => `(tactic| (k_here; (with_reducible refine' m_sub_fi ?hx ?b1 ?b2 ?b3 ?_); (case hx => ktr_rel); (case b1 => tb_start); (case b2 => tb_start); (case b3 => tb_start)))
local macro_rules | `(tactic| walk_at "binaryOp Add float float") => `(tactic| (k_here; (with_reducible refine' m_add_ff ?hx ?hy ?b1 ?b2 ?b3 ?_); (case hx => ktr_rel); (case hy => ktr_rel); (case b1 => tb_start); (case b2 => tb_start); (case b3 => tb_start)))
local macro_rules | `(tactic| walk_at "binaryOp Sub float float") => `(tactic| (k_here; (with_reducible refine' m_sub_ff ?hx ?hy ?b1 ?b2 ?b3 ?_); (case hx => ktr_rel); (case hy => ktr_rel); (case b1 => tb_start); (case b2 => tb_start); (case b3 => tb_start)))
local macro_rules | `(tactic| walk_at "binaryOp Div int int") => `(tactic| (k_here; (with_reducible refine' m_div_ii ?hA ?b1 ?b2 ?_); (case hA => k_dflt (exact rfl)); (case b1 => tb_start); (case b2 => tb_start); intro z hz))
local macro_rules | `(tactic| walk_at "binaryOp Div float int") => `(tactic| (k_here; (with_reducible refine' m_div_fi ?hA ?hx ?b1 ?b2 ?b3 ?_); (case hA => k_dflt (exact rfl)); (case hx => ktr_rel); (case b1 => tb_start); (case b2 => tb_start); (case b3 => tb_start); intro z hz))
local macro_rules | `(tactic| walk_at "binaryOp Div float float") => `(tactic| (k_here; (with_reducible refine' m_div_ff ?hA ?hx ?hy ?b1 ?b2 ?b3 ?_); (case hA => k_dflt (exact rfl)); (case hx => ktr_rel); (case hy => ktr_rel); (case b1 => tb_start); (case b2 => tb_start); (case b3 => tb_start); intro z hz))
local macro_rules | `(tactic| walk_at "binaryOp Mod float int") => `(tactic| (k_here; (with_reducible refine' m_mod_fi ?hA ?hx ?b1 ?b2 ?b3 ?_); (case hA => k_dflt (exact rfl)); (case hx => ktr_rel); (case b1 => tb_start); (case b2 => tb_start); (case b3 => tb_start)))
local macro_rules | `(tactic| walk_at "call builtin:math.floor") => `(tactic| (k_here; (with_reducible show wpAny _ _ (call _ [Value.float _ _]) _ _ _); first
  | ((with_reducible refine' m_floor_Q ?hA ?hq ?b1 ?_); (case hA => k_dflt (exact rfl)); (case hq => with_reducible assumption); (case b1 => tb_start))
  | ((with_reducible refine' m_floor ?hA ?hx ?b1 ?_); (case hA => k_dflt (exact rfl)); (case hx => ktr_rel); (case b1 => tb_start))))
local macro_rules | `(tactic| walk_at "call builtin:math.ceil") => `(tactic| (k_here; (with_reducible show wpAny _ _ (call _ [Value.float _ _]) _ _ _); first
  | ((with_reducible refine' m_ceil_Q ?hA ?hq ?b1 ?_); (case hA => k_dflt (exact rfl)); (case hq => with_reducible assumption); (case b1 => tb_start))
  | ((with_reducible refine' m_ceil ?hA ?hx ?b1 ?_); (case hA => k_dflt (exact rfl)); (case hx => ktr_rel); (case b1 => tb_start))))
local macro_rules | `(tactic| walk_at "call type:int") => `(tactic| (k_here; (with_reducible show wpAny _ _ (call _ [Value.float _ _]) _ _ _); (with_reducible refine' m_int ?hA ?hx ?b1 ?b2 ?_); (case hA => k_dflt (exact rfl)); (case hx => ktr_rel); (case b1 => tb_start); (case b2 => tb_start)))
local macro_rules | `(tactic| walk_at "compareOp Gt float float") => `(tactic| (k_here; (with_reducible refine' m_gt_ff ?hx ?hy ?b1 ?b2 ?_); (case hx => ktr_rel); (case hy => ktr_rel); (case b1 => tb_start); (case b2 => tb_start)))
local macro_rules | `(tactic| walk_at "compareOp Lt float float") => `(tactic| (k_here; (with_reducible refine' m_lt_ff ?hx ?hy ?b1 ?b2 ?_); (case hx => ktr_rel); (case hy => ktr_rel); (case b1 => tb_start); (case b2 => tb_start)))
local macro_rules | `(tactic| walk_at "compareOp GtE float float") => `(tactic| (k_here; (with_reducible refine' m_ge_ff ?hx ?hy ?b1 ?b2 ?_); (case hx => ktr_rel); (case hy => ktr_rel); (case b1 => tb_start); (case b2 => tb_start)))
local macro_rules | `(tactic| walk_at "compareOp Lt float int") => `(tactic| (k_here; (with_reducible refine' m_lt_fi ?hx ?b1 ?_); (case hx => ktr_rel); (case b1 => tb_start)))
local macro_rules | `(tactic| walk_at "compareOp Eq float int") => `(tactic| (k_here; (with_reducible refine' m_eq_fi ?hx ?b1 ?_); (case hx => ktr_rel); (case b1 => tb_start)))
local macro_rules | `(tactic| walk_at "compareOp NotEq float int") => `(tactic| (k_here; (with_reducible refine' m_ne_fi ?hx ?b1 ?_); (case hx => ktr_rel); (case b1 => tb_start)))
local macro_rules | `(tactic| walk_at "UnrEnd") => `(tactic| (refine' UnrEnd.intro ?F ?N ?nn ?sub ?off ?_; (case sub => exact fun _ hp => hp); (case F => k_asm); (case N => k_asm); (case off => first | exact off_of (by assumption) | exact offI_of (by assumption)); (try ((refine' ⟨rfl, endF ?e1 ?e2, ?e3⟩); (case e1 => with_unfolding_all rfl); (case e2 => (simp only [accS]; omega)); (case e3 => (intro z h1 h2; simp only [h1, h2, if_false]))))))
local macro_rules | `(tactic| walk_at "binaryOp Mult float int") => `(tactic| (k_here; first
  | ((with_reducible refine' m_mul_fi ?hx ?b1 ?b2 ?b3 ?b4 ?_); (case hx => ktr_rel); (case b1 => tb_start); (case b2 => tb_start); (case b3 => tb_start); (case b4 => tb_start))
  | ((with_reducible refine' m_mul_fi' ?hx ?b1 ?b2 ?b3 ?b4 ?b5 ?_); (case hx => ktr_rel); (case b1 => tb_start); (case b2 => tb_start); (case b3 => tb_start); (case b4 => tb_start); (case b5 => tb_start))))
local macro_rules | `(tactic| walk_at "binaryOp Mult int float") => `(tactic| (k_here; ((with_reducible refine' m_mul_if' ?hx ?b1 ?b2 ?b3 ?b4 ?_); (case hx => ktr_rel); (case b1 => tb_start); (case b2 => tb_start); (case b3 => tb_start); (case b4 => tb_start))))
local macro_rules | `(tactic| walk_at "binaryOp Mult float float") => `(tactic| (k_here; ((with_reducible refine' m_mul_ff ?hx ?hy ?b1 ?b2 ?b3 ?b4 ?_); (case hx => ktr_rel); (case hy => exact lit_num2); (case b1 => tb_start); (case b2 => tb_start); (case b3 => tb_start); (case b4 => tb_start))))
local macro_rules | `(tactic| walk_at "call builtin:divmod") => `(tactic| (k_here; (with_reducible show wpAny _ _ (call (Value.builtin _) [Value.int _ _, Value.int _ _]) _ _ _); (rename Fr _ _ _ _ => dF); (rename News _ _ _ _ => dN); (refine' m_divmod dF dN ?b1 ?b2 ?_; (case b1 => tb_start); (case b2 => tb_start)); intro _ _ _))
set_option maxHeartbeats 8000000
local macro_rules | `(tactic| walk_at "eval ListComp") => `(tactic| (k_here; (k_dflt (refine ListComp_tup (F₀ := by k_asm) (by with_unfolding_all rfl) (by decide) (by rfl) (by decide) (by rfl) (by decide) ?_))))
local macro_rules | `(tactic| walk_at "TupSrc") => `(tactic| (k_here; (k_dflt (refine' tupsrc_row ?hh ?F ?N ?hR ?_ ?_; (case hh => rfl); (case F => k_asm); (case N => k_asm); (case hR => assumption))); intro k9 t9 I9 oI9 C9 oC9 D9 oD9 m29 h9 tk9 E9 hC9 hx9 F9 N9; rotate_left; intro D9 h9 tk9 F9 N9))
theorem c_plain (y m d : Int) (t u v : Tok) : ∀ {prog : Program} {w : World} {p : Program} {loose : List Str} {mean : ExcName → Option Value} {mg mb : Str → Option Value} {news : List (Addr × Obj)}
    {dp un : Nat} {gd : Option (List Code)} {cn : Str} {cs : Scope} {a : Addr} {ccd : Value} {cl : List (Str × Addr)} {outer : List Env} {A₀ : Around} {base h₀ : Heap} {L : Addr} {mm : Str → Option Value} {s : Shared} {Q E : Value → Shared → Prop} {R : Addr},
    Below A₀ base outer h₀ → Fr h₀ L s.heap mm → (hd.heap_39 w.params).In h₀ → News h₀ L s.heap news → Top p loose mean mg mb h₀ → cs.kind = .function →
    (R, tup3 y m d t u v) ∈ news → dp + 2 < recursionLimit → un + 8 * 2 < cLine →
    (∀ (h' : Heap) (tk' : Nat), Fr h₀ L h' mm → News h₀ L h' news → Q (.bool true) { s with heap := h', toks := tk' }) →
    wpAny (model prog w) (ktrTop dp un gd cn cs L a ccd cl outer) (call (.ref 210) [.ref R]) Q E s := by
  intros
  rename_i hR _ _ hret
  refine wpAny_call ?_
  k_dflt cell_enter
  k_steps
  all_goals first
    | (refine testOut_intro (by k_asm) (by k_asm) ?_; rfl)
    | exact hret _ _ (by k_asm) (newsSub (by k_asm) (by intro p9 hp9; repeat (first | exact hp9 | apply List.Mem.tail)))
end Mine
end
section
open PySem PySem.W PyProof.Rows
set_option maxRecDepth 100000
namespace Mine
theorem resetMWF : True := by
  w_top off
  k_with_none
  trivial
local macro_rules | `(tactic| ktr_rel) => `(tactic| first | (with_reducible exact rfl) | exact lit_g | exact lit_h | exact lit_i | exact lit_half | exact lit_295 | exact lit_num | exact lit_den)
local macro_rules | `(tactic| tb_start) => `(tactic| first | decide | omega)
local macro_rules | `(tactic| walk_at "binaryOp Mod int int") => `(tactic| (k_here; (with_reducible refine' m_mod ?b1 ?_); (case b1 => tb_start)))
local macro_rules | `(tactic| walk_at "binaryOp FloorDiv int int") => `(tactic| (k_here; (with_reducible refine' m_fdiv ?b1 ?b2 ?_); (case b1 => tb_start); (case b2 => tb_start)))
local macro_rules | `(tactic| walk_at "binaryOp Add float int") => `(tactic| (k_here; (with_reducible refine' m_add_fi ?hx ?b1 ?b2 ?b3 ?_); (case hx => ktr_rel); (case b1 => tb_start); (case b2 => tb_start); (case b3 => tb_start)))
local macro_rules | `(tactic| walk_at "inplaceOp Add float int") => `(tactic| (k_here; (with_reducible refine' m_iadd_fi ?hA ?hx ?b1 ?b2 ?b3 ?_); (case hA => k_dflt (exact rfl)); (case hx => ktr_rel); (case b1 => tb_start); (case b2 => tb_start); (case b3 => tb_start)))
local macro_rules | `(tactic| walk_at "binaryOp Add int float") => `(tactic| (k_here; (with_reducible refine' m_add_if ?hx ?b1 ?b2 ?b3 ?_); (case hx => ktr_rel); (case b1 => tb_start); (case b2 => tb_start); (case b3 => tb_start)))
local macro_rules | `(tactic| walk_at "binaryOp Sub float int") => `(tactic| (k_here; (with_reducible refine' m_sub_fi ?hx ?b1 ?b2 ?b3 ?_); (case hx => ktr_rel); (case b1 => tb_start); (case b2 => tb_start); (case b3 => tb_start)))
local macro_rules | `(tactic| walk_at "binaryOp Add float float") => `(tactic| (k_here; (with_reducible refine' m_add_ff ?hx ?hy ?b1 ?b2 ?b3 ?_); (case hx => ktr_rel); (case hy => ktr_rel); (case b1 => tb_start); (case b2 => tb_start); (case b3 => tb_start)))
local macro_rules | `(tactic| walk_at "binaryOp Sub float float") => `(tactic| (k_here; (with_reducible refine' m_sub_ff ?hx ?hy ?b1 ?b2 ?b3 ?_); (case hx => ktr_rel); (case hy => ktr_rel); (case b1 => tb_start); (case b2 => tb_start); (case b3 => tb_start)))
local macro_rules | `(tactic| walk_at "binaryOp Div int int") => `(tactic| (k_here; (with_reducible refine' m_div_ii ?hA ?b1 ?b2 ?_); (case hA => k_dflt (exact rfl)); (case b1 => tb_start); (case b2 => tb_start); intro z hz))
local macro_rules | `(tactic| walk_at "binaryOp Div float int") => `(tactic| (k_here; (with_reducible refine' m_div_fi ?hA ?hx ?b1 ?b2 ?b3 ?_); (case hA => k_dflt (exact rfl)); (case hx => ktr_rel); (case b1 => tb_start); (case b2 => tb_start); (case b3 => tb_start); intro z hz))
local macro_rules | `(tactic| walk_at "binaryOp Div float float") => `(tactic| (k_here; (with_reducible refine' m_div_ff ?hA ?hx ?hy ?b1 ?b2 ?b3 ?_); (case hA => k_dflt (exact rfl)); (case hx => ktr_rel); (case hy => ktr_rel); (case b1 => tb_start); (case b2 => tb_start); (case b3 => tb_start); intro z hz))
local macro_rules | `(tactic| walk_at "binaryOp Mod float int") => `(tactic| (k_here; (with_reducible refine' m_mod_fi ?hA ?hx ?b1 ?b2 ?b3 ?_); (case hA => k_dflt (exact rfl)); (case hx => ktr_rel); (case b1 => tb_start); (case b2 => tb_start); (case b3 => tb_start)))
local macro_rules | `(tactic| walk_at "call builtin:math.floor") => `(tactic| (k_here; (with_reducible show wpAny _ _ (call _ [Value.float _ _]) _ _ _); first
  | ((with_reducible refine' m_floor_Q ?hA ?hq ?b1 ?_); (case hA => k_dflt (exact rfl)); (case hq => with_reducible assumption); (case b1 => tb_start))
  | ((with_reducible refine' m_floor ?hA ?hx ?b1 ?_); (case hA => k_dflt (exact rfl)); (case hx => ktr_rel); (case b1 => tb_start))))
local macro_rules | `(tactic| walk_at "call builtin:math.ceil") => `(tactic| (k_here; (with_reducible show wpAny _ _ (call _ [Value.float _ _]) _ _ _); first
  | ((with_reducible refine' m_ceil_Q ?hA ?hq ?b1 ?_); (case hA => k_dflt (exact rfl)); (case hq => with_reducible assumption); (case b1 => tb_start))
  | ((with_reducible refine' m_ceil ?hA ?hx ?b1 ?_); (case hA => k_dflt (exact rfl)); (case hx => ktr_rel); (case b1 => tb_start))))
local macro_rules | `(tactic| walk_at "call type:int") => `(tactic| (k_here; (with_reducible show wpAny _ _ (call _ [Value.float _ _]) _ _ _); (with_reducible refine' m_int ?hA ?hx ?b1 ?b2 ?_); (case hA => k_dflt (exact rfl)); (case hx => ktr_rel); (case b1 => tb_start); (case b2 => tb_start)))
local macro_rules | `(tactic| walk_at "compareOp Gt float float") => `(tactic| (k_here; (with_reducible refine' m_gt_ff ?hx ?hy ?b1 ?b2 ?_); (case hx => ktr_rel); (case hy => ktr_rel); (case b1 => tb_start); (case b2 => tb_start)))
local macro_rules | `(tactic| walk_at "compareOp Lt float float") => `(tactic| (k_here; (with_reducible refine' m_lt_ff ?hx ?hy ?b1 ?b2 ?_); (case hx => ktr_rel); (case hy => ktr_rel); (case b1 => tb_start); (case b2 => tb_start)))
local macro_rules | `(tactic| walk_at "compareOp GtE float float") => `(tactic| (k_here; (with_reducible refine' m_ge_ff ?hx ?hy ?b1 ?b2 ?_); (case hx => ktr_rel); (case hy => ktr_rel); (case b1 => tb_start); (case b2 => tb_start)))
local macro_rules | `(tactic| walk_at "compareOp Lt float int") => `(tactic| (k_here; (with_reducible refine' m_lt_fi ?hx ?b1 ?_); (case hx => ktr_rel); (case b1 => tb_start)))
local macro_rules | `(tactic| walk_at "compareOp Eq float int") => `(tactic| (k_here; (with_reducible refine' m_eq_fi ?hx ?b1 ?_); (case hx => ktr_rel); (case b1 => tb_start)))
local macro_rules | `(tactic| walk_at "compareOp NotEq float int") => `(tactic| (k_here; (with_reducible refine' m_ne_fi ?hx ?b1 ?_); (case hx => ktr_rel); (case b1 => tb_start)))
local macro_rules | `(tactic| walk_at "UnrEnd") => `(tactic| (refine' UnrEnd.intro ?F ?N ?nn ?sub ?off ?_; (case sub => exact fun _ hp => hp); (case F => k_asm); (case N => k_asm); (case off => first | exact off_of (by assumption) | exact offI_of (by assumption)); (try ((refine' ⟨rfl, endF ?e1 ?e2, ?e3⟩); (case e1 => with_unfolding_all rfl); (case e2 => (simp only [accS]; omega)); (case e3 => (intro z h1 h2; simp only [h1, h2, if_false]))))))
local macro_rules | `(tactic| walk_at "binaryOp Mult float int") => `(tactic| (k_here; first
  | ((with_reducible refine' m_mul_fi ?hx ?b1 ?b2 ?b3 ?b4 ?_); (case hx => ktr_rel); (case b1 => tb_start); (case b2 => tb_start); (case b3 => tb_start); (case b4 => tb_start))
  | ((with_reducible refine' m_mul_fi' ?hx ?b1 ?b2 ?b3 ?b4 ?b5 ?_); (case hx => ktr_rel); (case b1 => tb_start); (case b2 => tb_start); (case b3 => tb_start); (case b4 => tb_start); (case b5 => tb_start))))
local macro_rules | `(tactic| walk_at "binaryOp Mult int float") => `(tactic| (k_here; ((with_reducible refine' m_mul_if' ?hx ?b1 ?b2 ?b3 ?b4 ?_); (case hx => ktr_rel); (case b1 => tb_start); (case b2 => tb_start); (case b3 => tb_start); (case b4 => tb_start))))
local macro_rules | `(tactic| walk_at "binaryOp Mult float float") => `(tactic| (k_here; ((with_reducible refine' m_mul_ff ?hx ?hy ?b1 ?b2 ?b3 ?b4 ?_); (case hx => ktr_rel); (case hy => exact lit_num2); (case b1 => tb_start); (case b2 => tb_start); (case b3 => tb_start); (case b4 => tb_start))))
local macro_rules | `(tactic| walk_at "call builtin:divmod") => `(tactic| (k_here; (with_reducible show wpAny _ _ (call (Value.builtin _) [Value.int _ _, Value.int _ _]) _ _ _); (rename Fr _ _ _ _ => dF); (rename News _ _ _ _ => dN); (refine' m_divmod dF dN ?b1 ?b2 ?_; (case b1 => tb_start); (case b2 => tb_start)); intro _ _ _))
set_option maxHeartbeats 8000000
theorem c_noon (N : Int) (u : Tok) : Cl 217 2 (300000 ≤ N ∧ N ≤ 32000000000) [.float (hf (2 * N + 1)) u] (fun t => .int (N + 1) t) := by
  unfold Cl
  intros
  rename_i hpre _ _ hret
  dsimp only at hret
  refine wpAny_call ?_
  k_dflt cell_enter
  k_steps
  all_goals first
    | (refine retI hret (by k_asm) (by k_asm) ?_; omega)
end Mine
end
section
open PySem PySem.W PyProof.Rows
set_option maxRecDepth 100000
namespace Mine
theorem resetMWG : True := by
  w_top off
  k_with_none
  trivial
local macro_rules | `(tactic| ktr_rel) => `(tactic| first | (with_reducible exact rfl) | exact lit_g | exact lit_h | exact lit_i | exact lit_half | exact lit_295 | exact lit_num | exact lit_den)
local macro_rules | `(tactic| tb_start) => `(tactic| first | decide | omega)
local macro_rules | `(tactic| walk_at "binaryOp Mod int int") => `(tactic| (k_here; (with_reducible refine' m_mod ?b1 ?_); (case b1 => tb_start)))
local macro_rules | `(tactic| walk_at "binaryOp FloorDiv int int") => `(tactic| (k_here; (with_reducible refine' m_fdiv ?b1 ?b2 ?_); (case b1 => tb_start); (case b2 => tb_start)))
local macro_rules | `(tactic| walk_at "binaryOp Add float int") => `(tactic| (k_here; (with_reducible refine' m_add_fi ?hx ?b1 ?b2 ?b3 ?_); (case hx => ktr_rel); (case b1 => tb_start); (case b2 => tb_start); (case b3 => tb_start)))
local macro_rules | `(tactic| walk_at "inplaceOp Add float int") => `(tactic| (k_here; (with_reducible refine' m_iadd_fi ?hA ?hx ?b1 ?b2 ?b3 ?_); (case hA => k_dflt (exact rfl)); (case hx => ktr_rel); (case b1 => tb_start); (case b2 => tb_start); (case b3 => tb_start)))
local macro_rules | `(tactic| walk_at "binaryOp Add int float") => `(tactic| (k_here; (with_reducible refine' m_add_if ?hx ?b1 ?b2 ?b3 ?_); (case hx => ktr_rel); (case b1 => tb_start); (case b2 => tb_start); (case b3 => tb_start)))
local macro_rules | `(tactic| walk_at "binaryOp Sub float int") => `(tactic| (k_here; (with_reducible refine' m_sub_fi ?hx ?b1 ?b2 ?b3 ?_); (case hx => ktr_rel); (case b1 => tb_start); (case b2 => tb_start); (case b3 => tb_start)))
local macro_rules | `(tactic| walk_at "binaryOp Add float float") => `(tactic| (k_here; (with_reducible refine' m_add_ff ?hx ?hy ?b1 ?b2 ?b3 ?_); (case hx => ktr_rel); (case hy => ktr_rel); (case b1 => tb_start); (case b2 => tb_start); (case b3 => tb_start)))
local macro_rules | `(tactic| walk_at "binaryOp Sub float float") => `(tactic| (k_here; (with_reducible refine' m_sub_ff ?hx ?hy ?b1 ?b2 ?b3 ?_); (case hx => ktr_rel); (case hy => ktr_rel); (case b1 => tb_start); (case b2 => tb_start); (case b3 => tb_start)))
local macro_rules | `(tactic| walk_at "binaryOp Div int int") => `(tactic| (k_here; (with_reducible refine' m_div_ii ?hA ?b1 ?b2 ?_); (case hA => k_dflt (exact rfl)); (case b1 => tb_start); (case b2 => tb_start); intro z hz))
local macro_rules | `(tactic| walk_at "binaryOp Div float int") => `(tactic| (k_here; (with_reducible refine' m_div_fi ?hA ?hx ?b1 ?b2 ?b3 ?_); (case hA => k_dflt (exact rfl)); (case hx => ktr_rel); (case b1 => tb_start); (case b2 => tb_start); (case b3 => tb_start); intro z hz))
local macro_rules | `(tactic| walk_at "binaryOp Div float float") => `(tactic| (k_here; (with_reducible refine' m_div_ff ?hA ?hx ?hy ?b1 ?b2 ?b3 ?_); (case hA => k_dflt (exact rfl)); (case hx => ktr_rel); (case hy => ktr_rel); (case b1 => tb_start); (case b2 => tb_start); (case b3 => tb_start); intro z hz))
local macro_rules | `(tactic| walk_at "binaryOp Mod float int") => `(tactic| (k_here; (with_reducible refine' m_mod_fi ?hA ?hx ?b1 ?b2 ?b3 ?_); (case hA => k_dflt (exact rfl)); (case hx => ktr_rel); (case b1 => tb_start); (case b2 => tb_start); (case b3 => tb_start)))
local macro_rules | `(tactic| walk_at "call builtin:math.floor") => `(tactic| (k_here; (with_reducible show wpAny _ _ (call _ [Value.float _ _]) _ _ _); first
  | ((with_reducible refine' m_floor_Q ?hA ?hq ?b1 ?_); (case hA => k_dflt (exact rfl)); (case hq => with_reducible assumption); (case b1 => tb_start))
  | ((with_reducible refine' m_floor ?hA ?hx ?b1 ?_); (case hA => k_dflt (exact rfl)); (case hx => ktr_rel); (case b1 => tb_start))))
local macro_rules | `(tactic| walk_at "call builtin:math.ceil") => `(tactic| (k_here; (with_reducible show wpAny _ _ (call _ [Value.float _ _]) _ _ _); first
  | ((with_reducible refine' m_ceil_Q ?hA ?hq ?b1 ?_); (case hA => k_dflt (exact rfl)); (case hq => with_reducible assumption); (case b1 => tb_start))
  | ((with_reducible refine' m_ceil ?hA ?hx ?b1 ?_); (case hA => k_dflt (exact rfl)); (case hx => ktr_rel); (case b1 => tb_start))))
local macro_rules | `(tactic| walk_at "call type:int") => `(tactic| (k_here; (with_reducible show wpAny _ _ (call _ [Value.float _ _]) _ _ _); (with_reducible refine' m_int ?hA ?hx ?b1 ?b2 ?_); (case hA => k_dflt (exact rfl)); (case hx => ktr_rel); (case b1 => tb_start); (case b2 => tb_start)))
local macro_rules | `(tactic| walk_at "compareOp Gt float float") => `(tactic| (k_here; (with_reducible refine' m_gt_ff ?hx ?hy ?b1 ?b2 ?_); (case hx => ktr_rel); (case hy => ktr_rel); (case b1 => tb_start); (case b2 => tb_start)))
local macro_rules | `(tactic| walk_at "compareOp Lt float float") => `(tactic| (k_here; (with_reducible refine' m_lt_ff ?hx ?hy ?b1 ?b2 ?_); (case hx => ktr_rel); (case hy => ktr_rel); (case b1 => tb_start); (case b2 => tb_start)))
local macro_rules | `(tactic| walk_at "compareOp GtE float float") => `(tactic| (k_here; (with_reducible refine' m_ge_ff ?hx ?hy ?b1 ?b2 ?_); (case hx => ktr_rel); (case hy => ktr_rel); (case b1 => tb_start); (case b2 => tb_start)))
local macro_rules | `(tactic| walk_at "compareOp Lt float int") => `(tactic| (k_here; (with_reducible refine' m_lt_fi ?hx ?b1 ?_); (case hx => ktr_rel); (case b1 => tb_start)))
local macro_rules | `(tactic| walk_at "compareOp Eq float int") => `(tactic| (k_here; (with_reducible refine' m_eq_fi ?hx ?b1 ?_); (case hx => ktr_rel); (case b1 => tb_start)))
local macro_rules | `(tactic| walk_at "compareOp NotEq float int") => `(tactic| (k_here; (with_reducible refine' m_ne_fi ?hx ?b1 ?_); (case hx => ktr_rel); (case b1 => tb_start)))
local macro_rules | `(tactic| walk_at "UnrEnd") => `(tactic| (refine' UnrEnd.intro ?F ?N ?nn ?sub ?off ?_; (case sub => exact fun _ hp => hp); (case F => k_asm); (case N => k_asm); (case off => first | exact off_of (by assumption) | exact offI_of (by assumption)); (try ((refine' ⟨rfl, endF ?e1 ?e2, ?e3⟩); (case e1 => with_unfolding_all rfl); (case e2 => (simp only [accS]; omega)); (case e3 => (intro z h1 h2; simp only [h1, h2, if_false]))))))
local macro_rules | `(tactic| walk_at "binaryOp Mult float int") => `(tactic| (k_here; first
  | ((with_reducible refine' m_mul_fi ?hx ?b1 ?b2 ?b3 ?b4 ?_); (case hx => ktr_rel); (case b1 => tb_start); (case b2 => tb_start); (case b3 => tb_start); (case b4 => tb_start))
  | ((with_reducible refine' m_mul_fi' ?hx ?b1 ?b2 ?b3 ?b4 ?b5 ?_); (case hx => ktr_rel); (case b1 => tb_start); (case b2 => tb_start); (case b3 => tb_start); (case b4 => tb_start); (case b5 => tb_start))))
local macro_rules | `(tactic| walk_at "binaryOp Mult int float") => `(tactic| (k_here; ((with_reducible refine' m_mul_if' ?hx ?b1 ?b2 ?b3 ?b4 ?_); (case hx => ktr_rel); (case b1 => tb_start); (case b2 => tb_start); (case b3 => tb_start); (case b4 => tb_start))))
local macro_rules | `(tactic| walk_at "binaryOp Mult float float") => `(tactic| (k_here; ((with_reducible refine' m_mul_ff ?hx ?hy ?b1 ?b2 ?b3 ?b4 ?_); (case hx => ktr_rel); (case hy => exact lit_num2); (case b1 => tb_start); (case b2 => tb_start); (case b3 => tb_start); (case b4 => tb_start))))
local macro_rules | `(tactic| walk_at "call builtin:divmod") => `(tactic| (k_here; (with_reducible show wpAny _ _ (call (Value.builtin _) [Value.int _ _, Value.int _ _]) _ _ _); (rename Fr _ _ _ _ => dF); (rename News _ _ _ _ => dN); (refine' m_divmod dF dN ?b1 ?b2 ?_; (case b1 => tb_start); (case b2 => tb_start)); intro _ _ _))
set_option maxHeartbeats 8000000
theorem c_frg1 {N : Int} (y m d : Int) (t u v : Tok) : ClT 162 5 (IsDate N y m d ∧ 300000 ≤ N ∧ N ≤ 31000000000) [.int y t, .int m u, .int d v] (fun y9 m9 d9 => IsIsl N y9 m9 d9) := by
  unfold ClT
  intros
  rename_i hpre hd hu hret
  have e := hpre.1.num
  exact c_frg y m d t u v (by assumption) (by assumption) (by assumption) (by assumption) (by assumption) (by assumption) (by rw [e]; exact hpre) hd hu (by rw [e]; exact hret)
theorem c_ij1 {N : Int} (y m d : Int) (t u v : Tok) : Cl 148 1 (IsIsl N y m d) [.int y t, .int m u, .int d v] (fun t => .float (hf (2 * N + 1)) t) := by
  unfold Cl
  intros
  rename_i hpre hd hu hret
  have e := hpre.num
  have e1 := hpre.rng
  have e2 := hpre.mon
  have e3 := hpre.day
  exact c_ij y m d t u v (by assumption) (by assumption) (by assumption) (by assumption) (by assumption) (by assumption) (by omega) hd hu (by rw [e]; exact hret)
theorem c_noon1 (number : Int) (u : Tok) : Cl 217 2 (300001 ≤ number ∧ number ≤ 32000000000) [.float (hf (2 * (number - 1) + 1)) u] (fun t => .int number t) := by
  unfold Cl
  intros
  rename_i hpre hd hu hret
  exact c_noon (number - 1) u (by assumption) (by assumption) (by assumption) (by assumption) (by assumption) (by assumption) (by omega) hd hu (by rw [Int.sub_add_cancel]; exact hret)
theorem c_civ1 {cy cm cd : Int} (n : Int) (t : Tok) : ClT 205 2 (IsDate (n - 1) cy cm cd ∧ 300000 ≤ n ∧ n ≤ 32000000000) [.int n t] (fun y9 m9 d9 => y9 = cy ∧ m9 = cm ∧ d9 = cd) := by
  unfold ClT
  intros
  rename_i hpre hd hu hret
  exact c_civil n t (by assumption) (by assumption) (by assumption) (by assumption) (by assumption) (by assumption) hpre.2 hd hu (fun y mo d H => hret y mo d (hpre.1.same H))
theorem c_isl1 {cy cm cd : Int} (n : Int) (t : Tok) : ClT 198 2 (IsIsl (n - 1) cy cm cd ∧ 300000 ≤ n ∧ n ≤ 32000000000) [.int n t] (fun y9 m9 d9 => y9 = cy ∧ m9 = cm ∧ d9 = cd) := by
  unfold ClT
  intros
  rename_i hpre hd hu hret
  exact c_isl n t (by assumption) (by assumption) (by assumption) (by assumption) (by assumption) (by assumption) hpre.2 hd hu (fun y mo d H => hret y mo d (hpre.1.same H))
local macro_rules | `(tactic| walk_at "binaryOp Add int int") => `(tactic| ((with_reducible refine add_int ?_); (try dsimp only)))
local macro_rules | `(tactic| walk_at "binaryOp Mult int int") => `(tactic| ((with_reducible refine mul_int ?_); (try dsimp only)))
local macro_rules | `(tactic| walk_at "binaryOp Sub int int") => `(tactic| ((with_reducible refine sub_int ?_); (try dsimp only)))
local macro_rules | `(tactic| walk_at "exec If") => `(tactic| (k_here; (with_reducible show wpAny _ _ (exec (Stmt.If (PySem.Expr.BoolOp _ _ _) _ _ _) _) _ _ _); (rename Fr _ _ _ _ => dF); (rename News _ _ _ _ => dN); (with_reducible refine if_no dF dN ?_ ?_); rotate_left; (intro h9 tk9 F9 N9; (try dsimp only); (try k_sweep)); rotate_left))
local macro_rules | `(tactic| walk_at "binaryOp Div int int") => `(tactic| (k_here; (refine' m_quarter ?hA ?_; (case hA => k_dflt (exact rfl)))))
local macro_rules | `(tactic| walk_at "binaryOp Add float float") => `(tactic| (k_here; (refine' m_addq ?b1 ?_; (case b1 => tb_start)); intro z9 hz9))
local macro_rules | `(tactic| walk_at "call ref") => `(tactic| (k_here; (with_reducible show wpAny _ _ (call (Value.ref 210) _) _ _ _); k_dflt (refine' c_plain _ _ _ _ _ _ ?k1 ?k2 ?k3 ?k4 ?k5 ?kK ?kp ?kd ?ku ?_; (case k1 => k_asm); (case k2 => k_asm); (case k3 => k_asm); (case k4 => k_asm); (case k5 => k_asm); (case kK => first | exact rfl | assumption); (case kp => k_mem)); (case kd => ktr_room); (case ku => ktr_units); intro h9 tk9 F9 N9; (try dsimp only); (try k_fold)))
local macro_rules | `(tactic| walk_at "call ref") => `(tactic| (k_here; (with_reducible show wpAny _ _ (call (Value.ref 162) _) _ _ _); k_dflt (refine' c_frg1 _ _ _ _ _ _ ?k1 ?k2 ?k3 ?k4 ?k5 ?kK ?kp ?kd ?ku ?_; (case k1 => k_asm); (case k2 => k_asm); (case k3 => k_asm); (case k4 => k_asm); (case k5 => k_asm); (case kK => first | exact rfl | assumption); (case kp => exact ⟨by assumption, by omega⟩)); (case kd => ktr_room); (case ku => ktr_units); intro y9 m9 d9 hP9 t91 t92 t93 q9 h9 tk9 F9 N9; (try dsimp only); (try k_fold)))
local macro_rules | `(tactic| walk_at "call ref") => `(tactic| (k_here; (with_reducible show wpAny _ _ (call (Value.ref 148) _) _ _ _); k_dflt (refine' c_ij _ _ _ _ _ _ ?k1 ?k2 ?k3 ?k4 ?k5 ?kK ?kp ?kd ?ku ?_; (case k1 => k_asm); (case k2 => k_asm); (case k3 => k_asm); (case k4 => k_asm); (case k5 => k_asm); (case kK => first | exact rfl | assumption); (case kp => omega)); (case kd => ktr_room); (case ku => ktr_units); intro t9 h9 tk9 F9 N9; (try dsimp only); (try k_fold)))
local macro_rules | `(tactic| walk_at "call ref") => `(tactic| (k_here; (with_reducible show wpAny _ _ (call (Value.ref 148) _) _ _ _); k_dflt (refine' c_ij1 _ _ _ _ _ _ ?k1 ?k2 ?k3 ?k4 ?k5 ?kK ?kp ?kd ?ku ?_; (case k1 => k_asm); (case k2 => k_asm); (case k3 => k_asm); (case k4 => k_asm); (case k5 => k_asm); (case kK => first | exact rfl | assumption); (case kp => assumption)); (case kd => ktr_room); (case ku => ktr_units); intro t9 h9 tk9 F9 N9; (try dsimp only); (try k_fold)))
local macro_rules | `(tactic| walk_at "call ref") => `(tactic| (k_here; (with_reducible show wpAny _ _ (call (Value.ref 217) _) _ _ _); k_dflt (refine' c_noon _ _ ?k1 ?k2 ?k3 ?k4 ?k5 ?kK ?kp ?kd ?ku ?_; (case k1 => k_asm); (case k2 => k_asm); (case k3 => k_asm); (case k4 => k_asm); (case k5 => k_asm); (case kK => first | exact rfl | assumption); (case kp => first | omega | assumption)); (case kd => ktr_room); (case ku => ktr_units); intro t9 h9 tk9 F9 N9; (try dsimp only); (try k_fold)))
local macro_rules | `(tactic| walk_at "call ref") => `(tactic| (k_here; (with_reducible show wpAny _ _ (call (Value.ref 217) [Value.float (hf (2 * (_ - 1) + 1)) _]) _ _ _); k_dflt (refine' c_noon1 _ _ ?k1 ?k2 ?k3 ?k4 ?k5 ?kK ?kp ?kd ?ku ?_; (case k1 => k_asm); (case k2 => k_asm); (case k3 => k_asm); (case k4 => k_asm); (case k5 => k_asm); (case kK => first | exact rfl | assumption); (case kp => omega)); (case kd => ktr_room); (case ku => ktr_units); intro t9 h9 tk9 F9 N9; (try dsimp only); (try k_fold)))
local macro_rules | `(tactic| walk_at "call ref") => `(tactic| (k_here; (with_reducible show wpAny _ _ (call (Value.ref 205) _) _ _ _); k_dflt (refine' c_civ1 _ _ ?k1 ?k2 ?k3 ?k4 ?k5 ?kK ?kp ?kd ?ku ?_; (case k1 => k_asm); (case k2 => k_asm); (case k3 => k_asm); (case k4 => k_asm); (case k5 => k_asm); (case kK => first | exact rfl | assumption); (case kp => exact ⟨by assumption, by omega⟩)); (case kd => ktr_room); (case ku => ktr_units); intro y9 m9 d9 hP9 t91 t92 t93 q9 h9 tk9 F9 N9; obtain ⟨e91, e92, e93⟩ := hP9; subst e91 e92 e93; (try dsimp only); (try k_fold)))
local macro_rules | `(tactic| walk_at "call ref") => `(tactic| (k_here; (with_reducible show wpAny _ _ (call (Value.ref 198) _) _ _ _); k_dflt (refine' c_isl1 _ _ ?k1 ?k2 ?k3 ?k4 ?k5 ?kK ?kp ?kd ?ku ?_; (case k1 => k_asm); (case k2 => k_asm); (case k3 => k_asm); (case k4 => k_asm); (case k5 => k_asm); (case kK => first | exact rfl | assumption); (case kp => exact ⟨by assumption, by omega⟩)); (case kd => ktr_room); (case ku => ktr_units); intro y9 m9 d9 hP9 t91 t92 t93 q9 h9 tk9 F9 N9; obtain ⟨e91, e92, e93⟩ := hP9; subst e91 e92 e93; (try dsimp only); (try k_fold)))
local macro_rules | `(tactic| walk_at "call ref") => `(tactic| (k_here; (with_reducible show wpAny _ _ (call (Value.ref 134) _) _ _ _); k_dflt (refine' c_fh _ _ _ _ _ _ ?hz ?k1 ?k2 ?k3 ?k4 ?k5 ?kK ?kp ?kd ?ku ?_; (case k1 => k_asm); (case k2 => k_asm); (case k3 => k_asm); (case k4 => k_asm); (case k5 => k_asm); (case kK => first | exact rfl | assumption); (case kp => assumption); (case hz => (rename IsZ _ _ _ => lz; exact isZ_eq lz (by omega)))); (case kd => ktr_room); (case ku => ktr_units); intro y9 m9 d9 hP9 t91 t92 t93 q9 h9 tk9 F9 N9; obtain ⟨e91, e92, e93⟩ := hP9; subst e91 e92 e93; (try dsimp only); (try k_fold)))
theorem c_one (count number y m d cy cm cd : Int) (t0 t00 t1 t2 t3 t4 t5 t6 : Tok) : ∀ {prog : Program} {w : World} {p : Program} {loose : List Str} {mean : ExcName → Option Value} {mg mb : Str → Option Value} {news : List (Addr × Obj)}
    {dp un : Nat} {gd : Option (List Code)} {cn : Str} {cs : Scope} {a : Addr} {ccd : Value} {cl : List (Str × Addr)} {outer : List Env} {A₀ : Around} {base h₀ : Heap} {L : Addr} {mm : Str → Option Value} {s : Shared} {Q E : Value → Shared → Prop} {Hd Cd : Addr},
    Below A₀ base outer h₀ → Fr h₀ L s.heap mm → (hd.heap_39 w.params).In h₀ → News h₀ L s.heap ((Cd, tup3 cy cm cd t1 t2 t3) :: (Hd, tup3 y m d t4 t5 t6) :: news) → Top p loose mean mg mb h₀ → cs.kind = .function →
    OneOk count number y m d cy cm cd → dp + 10 < recursionLimit → un + 8 * 10 < cLine →
    (∀ (h' : Heap) (tk' : Nat), Fr h₀ L h' mm → News h₀ L h' ((Cd, tup3 cy cm cd t1 t2 t3) :: (Hd, tup3 y m d t4 t5 t6) :: news) → Q (.bool true) { s with heap := h', toks := tk' }) →
    wpAny (model prog w) (ktrTop dp un gd cn cs L a ccd cl outer) (call (.ref 224) [.int count t0, .int number t00, .ref Hd, .ref Cd]) Q E s := by
  intros
  rename_i H _ _ hret
  have hcnt := H.cnt
  have hnum := H.num
  have hciv := H.civ
  have hheb := H.heb
  have hthr := H.thr
  have hlow := H.low
  have hhigh := H.high
  have hrl := H.rl
  have hrh := H.rh
  unfold partsOf there at hlow hhigh hrl hrh
  unfold there at hthr
  clear H
  refine wpAny_call ?_
  k_dflt cell_enter
  k_steps
  all_goals first
    | (refine testOut_intro (by k_asm) (newsSub (by k_asm) (by intro p9 hp9; repeat (first | exact hp9 | apply List.Mem.tail))) ?_; first | rfl | assumption | (exfalso; rename ((List.any _ _) = true) => hr9; have hr8 := rare_t hr9; omega) | (exfalso; omega) | (simp; done))
    | exact hret _ _ (by k_asm) (newsSub (by k_asm) (by intro p9 hp9; repeat (first | exact hp9 | apply List.Mem.tail)))
    | (exfalso; omega)
    | (exfalso; rename ((List.any _ _) = true) => hr9; have hr8 := rare_t hr9; omega)
end Mine
end
section
open PySem PySem.W PyProof.Rows
set_option maxRecDepth 100000
namespace Mine
theorem resetMWH : True := by
  w_top off
  k_with_none
  trivial
local macro_rules | `(tactic| ktr_rel) => `(tactic| first | (with_reducible exact rfl) | exact lit_g | exact lit_h | exact lit_i | exact lit_half | exact lit_295 | exact lit_num | exact lit_den)
local macro_rules | `(tactic| tb_start) => `(tactic| first | decide | omega)
local macro_rules | `(tactic| walk_at "binaryOp Mod int int") => `(tactic| (k_here; (with_reducible refine' m_mod ?b1 ?_); (case b1 => tb_start)))
local macro_rules | `(tactic| walk_at "binaryOp FloorDiv int int") => `(tactic| (k_here; (with_reducible refine' m_fdiv ?b1 ?b2 ?_); (case b1 => tb_start); (case b2 => tb_start)))
local macro_rules | `(tactic| walk_at "binaryOp Add float int") => `(tactic| (k_here; (with_reducible refine' m_add_fi ?hx ?b1 ?b2 ?b3 ?_); (case hx => ktr_rel); (case b1 => tb_start); (case b2 => tb_start); (case b3 => tb_start)))
local macro_rules | `(tactic| walk_at "inplaceOp Add float int") => `(tactic| (k_here; (with_reducible refine' m_iadd_fi ?hA ?hx ?b1 ?b2 ?b3 ?_); (case hA => k_dflt (exact rfl)); (case hx => ktr_rel); (case b1 => tb_start); (case b2 => tb_start); (case b3 => tb_start)))
local macro_rules | `(tactic| walk_at "binaryOp Add int float") => `(tactic| (k_here; (with_reducible refine' m_add_if ?hx ?b1 ?b2 ?b3 ?_); (case hx => ktr_rel); (case b1 => tb_start); (case b2 => tb_start); (case b3 => tb_start)))
local macro_rules | `(tactic| walk_at "binaryOp Sub float int") => `(tactic| (k_here; (with_reducible refine' m_sub_fi ?hx ?b1 ?b2 ?b3 ?_); (case hx => ktr_rel); (case b1 => tb_start); (case b2 => tb_start); (case b3 => tb_start)))
local macro_rules | `(tactic| walk_at "binaryOp Add float float") => `(tactic| (k_here; (with_reducible refine' m_add_ff ?hx ?hy ?b1 ?b2 ?b3 ?_); (case hx => ktr_rel); (case hy => ktr_rel); (case b1 => tb_start); (case b2 => tb_start); (case b3 => tb_start)))
local macro_rules | `(tactic| walk_at "binaryOp Sub float float") => `(tactic| (k_here; (with_reducible refine' m_sub_ff ?hx ?hy ?b1 ?b2 ?b3 ?_); (case hx => ktr_rel); (case hy => ktr_rel); (case b1 => tb_start); (case b2 => tb_start); (case b3 => tb_start)))
local macro_rules | `(tactic| walk_at "binaryOp Div int int") => `(tactic| (k_here; (with_reducible refine' m_div_ii ?hA ?b1 ?b2 ?_); (case hA => k_dflt (exact rfl)); (case b1 => tb_start); (case b2 => tb_start); intro z hz))
local macro_rules | `(tactic| walk_at "binaryOp Div float int") => `(tactic| (k_here; (with_reducible refine' m_div_fi ?hA ?hx ?b1 ?b2 ?b3 ?_); (case hA => k_dflt (exact rfl)); (case hx => ktr_rel); (case b1 => tb_start); (case b2 => tb_start); (case b3 => tb_start); intro z hz))
local macro_rules | `(tactic| walk_at "binaryOp Div float float") => `(tactic| (k_here; (with_reducible refine' m_div_ff ?hA ?hx ?hy ?b1 ?b2 ?b3 ?_); (case hA => k_dflt (exact rfl)); (case hx => ktr_rel); (case hy => ktr_rel); (case b1 => tb_start); (case b2 => tb_start); (case b3 => tb_start); intro z hz))
local macro_rules | `(tactic| walk_at "binaryOp Mod float int") => `(tactic| (k_here; (with_reducible refine' m_mod_fi ?hA ?hx ?b1 ?b2 ?b3 ?_); (case hA => k_dflt (exact rfl)); (case hx => ktr_rel); (case b1 => tb_start); (case b2 => tb_start); (case b3 => tb_start)))
local macro_rules | `(tactic| walk_at "call builtin:math.floor") => `(tactic| (k_here; (with_reducible show wpAny _ _ (call _ [Value.float _ _]) _ _ _); first
  | ((with_reducible refine' m_floor_Q ?hA ?hq ?b1 ?_); (case hA => k_dflt (exact rfl)); (case hq => with_reducible assumption); (case b1 => tb_start))
  | ((with_reducible refine' m_floor ?hA ?hx ?b1 ?_); (case hA => k_dflt (exact rfl)); (case hx => ktr_rel); (case b1 => tb_start))))
local macro_rules | `(tactic| walk_at "call builtin:math.ceil") => `(tactic| (k_here; (with_reducible show wpAny _ _ (call _ [Value.float _ _]) _ _ _); first
  | ((with_reducible refine' m_ceil_Q ?hA ?hq ?b1 ?_); (case hA => k_dflt (exact rfl)); (case hq => with_reducible assumption); (case b1 => tb_start))
  | ((with_reducible refine' m_ceil ?hA ?hx ?b1 ?_); (case hA => k_dflt (exact rfl)); (case hx => ktr_rel); (case b1 => tb_start))))
local macro_rules | `(tactic| walk_at "call type:int") => `(tactic| (k_here; (with_reducible show wpAny _ _ (call _ [Value.float _ _]) _ _ _); (with_reducible refine' m_int ?hA ?hx ?b1 ?b2 ?_); (case hA => k_dflt (exact rfl)); (case hx => ktr_rel); (case b1 => tb_start); (case b2 => tb_start)))
local macro_rules | `(tactic| walk_at "compareOp Gt float float") => `(tactic| (k_here; (with_reducible refine' m_gt_ff ?hx ?hy ?b1 ?b2 ?_); (case hx => ktr_rel); (case hy => ktr_rel); (case b1 => tb_start); (case b2 => tb_start)))
local macro_rules | `(tactic| walk_at "compareOp Lt float float") => `(tactic| (k_here; (with_reducible refine' m_lt_ff ?hx ?hy ?b1 ?b2 ?_); (case hx => ktr_rel); (case hy => ktr_rel); (case b1 => tb_start); (case b2 => tb_start)))
local macro_rules | `(tactic| walk_at "compareOp GtE float float") => `(tactic| (k_here; (with_reducible refine' m_ge_ff ?hx ?hy ?b1 ?b2 ?_); (case hx => ktr_rel); (case hy => ktr_rel); (case b1 => tb_start); (case b2 => tb_start)))
local macro_rules | `(tactic| walk_at "compareOp Lt float int") => `(tactic| (k_here; (with_reducible refine' m_lt_fi ?hx ?b1 ?_); (case hx => ktr_rel); (case b1 => tb_start)))
local macro_rules | `(tactic| walk_at "compareOp Eq float int") => `(tactic| (k_here; (with_reducible refine' m_eq_fi ?hx ?b1 ?_); (case hx => ktr_rel); (case b1 => tb_start)))
local macro_rules | `(tactic| walk_at "compareOp NotEq float int") => `(tactic| (k_here; (with_reducible refine' m_ne_fi ?hx ?b1 ?_); (case hx => ktr_rel); (case b1 => tb_start)))
local macro_rules | `(tactic| walk_at "UnrEnd") => `(tactic| (refine' UnrEnd.intro ?F ?N ?nn ?sub ?off ?_; (case sub => exact fun _ hp => hp); (case F => k_asm); (case N => k_asm); (case off => first | exact off_of (by assumption) | exact offI_of (by assumption)); (try ((refine' ⟨rfl, endF ?e1 ?e2, ?e3⟩); (case e1 => with_unfolding_all rfl); (case e2 => (simp only [accS]; omega)); (case e3 => (intro z h1 h2; simp only [h1, h2, if_false]))))))
local macro_rules | `(tactic| walk_at "binaryOp Mult float int") => `(tactic| (k_here; first
  | ((with_reducible refine' m_mul_fi ?hx ?b1 ?b2 ?b3 ?b4 ?_); (case hx => ktr_rel); (case b1 => tb_start); (case b2 => tb_start); (case b3 => tb_start); (case b4 => tb_start))
  | ((with_reducible refine' m_mul_fi' ?hx ?b1 ?b2 ?b3 ?b4 ?b5 ?_); (case hx => ktr_rel); (case b1 => tb_start); (case b2 => tb_start); (case b3 => tb_start); (case b4 => tb_start); (case b5 => tb_start))))
local macro_rules | `(tactic| walk_at "binaryOp Mult int float") => `(tactic| (k_here; ((with_reducible refine' m_mul_if' ?hx ?b1 ?b2 ?b3 ?b4 ?_); (case hx => ktr_rel); (case b1 => tb_start); (case b2 => tb_start); (case b3 => tb_start); (case b4 => tb_start))))
local macro_rules | `(tactic| walk_at "binaryOp Mult float float") => `(tactic| (k_here; ((with_reducible refine' m_mul_ff ?hx ?hy ?b1 ?b2 ?b3 ?b4 ?_); (case hx => ktr_rel); (case hy => exact lit_num2); (case b1 => tb_start); (case b2 => tb_start); (case b3 => tb_start); (case b4 => tb_start))))
local macro_rules | `(tactic| walk_at "call builtin:divmod") => `(tactic| (k_here; (with_reducible show wpAny _ _ (call (Value.builtin _) [Value.int _ _, Value.int _ _]) _ _ _); (rename Fr _ _ _ _ => dF); (rename News _ _ _ _ => dN); (refine' m_divmod dF dN ?b1 ?b2 ?_; (case b1 => tb_start); (case b2 => tb_start)); intro _ _ _))
set_option maxHeartbeats 8000000
local macro_rules | `(tactic| walk_at "binaryOp Add int int") => `(tactic| ((with_reducible refine add_int ?_); (try dsimp only)))
local macro_rules | `(tactic| walk_at "binaryOp Mult int int") => `(tactic| ((with_reducible refine mul_int ?_); (try dsimp only)))
local macro_rules | `(tactic| walk_at "binaryOp Sub int int") => `(tactic| ((with_reducible refine sub_int ?_); (try dsimp only)))
local macro_rules | `(tactic| walk_at "binaryOp Mod int int") => `(tactic| (k_here; (with_reducible refine' m_mod_l ?b1 ?_); (case b1 => tb_start); intro v9 hv9; (try dsimp only)))
local macro_rules | `(tactic| walk_at "subscriptTail") => `(tactic| (k_here; (with_reducible show wpAny _ _ (subscriptTail _ _ (Value.ref 165) (Value.int _ _)) _ _ _); k_dflt (refine' item165_l ?F ?X ?b1 ?_; (case F => k_asm); (case X => k_asm)); (case b1 => omega); intro r9 t9 hr9))
local macro_rules | `(tactic| walk_at "call ref") => `(tactic| (k_here; (with_reducible show wpAny _ _ (call (Value.ref 224) _) _ _ _); (k_dflt (refine' c_one _ _ _ _ _ _ _ _ _ _ _ _ _ _ _ _ ?k1 ?k2 ?k3 ?k4 ?k5 ?kK ?kp ?kd ?ku ?_; (case k1 => k_asm); (case k2 => k_asm); (case k3 => k_asm); (case k4 => k_asm); (case k5 => k_asm); (case kK => first | exact rfl | assumption); (case kp => (rename MonthOk _ _ _ _ _ => lo; rename IsDate _ _ _ _ => ld; exact lo.one _ _ _ _ (by omega) (by omega) ld))); (case kd => ktr_room); (case ku => ktr_units); intro h9 tk9 F9 N9; (try dsimp only); (try k_fold))))
local macro_rules | `(tactic| walk_at "call ref") => `(tactic| (k_here; (with_reducible show wpAny _ _ (call (Value.ref 141) _) _ _ _); (k_dflt (refine' c_tog _ _ _ _ _ _ ?k1 ?k2 ?k3 ?k4 ?k5 ?kK ?kp ?kd ?ku ?_; (case k1 => k_asm); (case k2 => k_asm); (case k3 => k_asm); (case k4 => k_asm); (case k5 => k_asm); (case kK => first | exact rfl | assumption); (case kp => omega)); (case kd => ktr_room); (case ku => ktr_units); intro y9 m9 d9 hP9 t91 t92 t93 q9 h9 tk9 F9 N9; (try dsimp only); (try k_fold))))
local macro_rules | `(tactic| walk_at "call ref") => `(tactic| (k_here; (with_reducible show wpAny _ _ (call (Value.ref 193) _) _ _ _); (k_dflt (refine' c_month _ _ ?k1 ?k2 ?k3 ?k4 ?k5 ?kK ?kp ?kq ?kd ?ku ?_; (case k1 => k_asm); (case k2 => k_asm); (case k3 => k_asm); (case k4 => k_asm); (case k5 => k_asm); (case kK => first | exact rfl | assumption)); (case kq => refine month_pre ?_; omega); (case kp => omega); (case kd => ktr_room); (case ku => ktr_units)); intro y9 m9 n9 l9 hy9 hm9 t91 t92 t93 t94 q9 h9 tk9 F9 N9; (have ok9 := month_ok (by omega) hy9 hm9); (have ok91 := ok9.yr); (have ok92 := ok9.mon); (have ok93 := ok9.ln); (have ok94 := ok9.nm); clear hy9 hm9; (try dsimp only); (try k_fold)))
theorem law_holds : PySem.Challenge.rw_ad5021_01.Holds := hd (by
  k_go0
  all_goals try k_fold
  k_steps
  done)
end Mine
end
theorem PySem.Challenge.cw_ad5021_01_holds : PySem.Challenge.rw_ad5021_01.Holds := by
  exact Mine.law_holds
