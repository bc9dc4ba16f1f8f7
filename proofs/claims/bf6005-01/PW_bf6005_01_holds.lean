import PyProof.Rows.All
import Wide.All
import OpenK.AllK
import Wide.FinOn
import PySem.Challenge.RW_bf6005_01
open PySem PySem.W PyProof.Rows
set_option Elab.async false
set_option maxRecDepth 100000
set_option maxHeartbeats 8000000
-- FL
namespace Heb
open PySem.Float64

def fl (h : Int) : UInt64 := ofFrac (decide (h < 0)) h.natAbs 2

theorem pow_split (a b : Nat) : 2 ^ (a + b) = 2 ^ a * 2 ^ b := Nat.pow_add 2 a b

/-- a whole number below 2^53 times a power is a double -/
theorem repr_pos (n s : Nat) (hn : n < 2 ^ 53) (h1 : 52 ≤ s) (h2 : s ≤ 2040) : ∃ t, t < infMag ∧ V t = n * 2 ^ s := by
  by_cases h0 : n = 0
  · subst h0
    exact ⟨0, by decide, by rw [V_zero]; simp⟩
  · have hl1 : 2 ^ n.log2 ≤ n := Nat.log2_self_le h0
    have hl2 : n < 2 ^ (n.log2 + 1) := Nat.lt_log2_self
    have hl3 : n.log2 < 53 := (Nat.pow_lt_pow_iff_right (by decide : 1 < 2)).mp (Nat.lt_of_le_of_lt hl1 hn)
    have hq1 : 2 ^ 52 ≤ n * 2 ^ (52 - n.log2) := by
      calc 2 ^ 52 = 2 ^ n.log2 * 2 ^ (52 - n.log2) := by rw [← Nat.pow_add]; congr 1; omega
        _ ≤ n * 2 ^ (52 - n.log2) := Nat.mul_le_mul_right _ hl1
    have hq2 : n * 2 ^ (52 - n.log2) < 2 ^ 53 := by
      calc n * 2 ^ (52 - n.log2) < 2 ^ (n.log2 + 1) * 2 ^ (52 - n.log2) := Nat.mul_lt_mul_of_pos_right hl2 (Nat.two_pow_pos _)
        _ = 2 ^ 53 := by rw [← Nat.pow_add]; congr 1; omega
    have hV := V_at (k := s - (52 - n.log2)) (q := n * 2 ^ (52 - n.log2)) (Nat.le_of_lt hq2) (.inl hq1)
    refine ⟨_, ?_, hV.trans ?_⟩
    · have : s - (52 - n.log2) ≤ 2040 := by omega
      have hi : infMag = 2047 * 2 ^ 52 := rfl
      omega
    · rw [Nat.mul_assoc, ← Nat.pow_add]; congr 2; omega

theorem big_no {W : Nat} (h : W < 2 ^ 2097) : ¬ (1 * ((2 ^ 54 - 1) * 2 ^ 2045) ≤ 2 * W) := by
  have e : 2 ^ 2097 = 2 ^ 52 * 2 ^ 2045 := pow_split 52 2045
  rw [e] at h
  generalize 2 ^ 2045 = K at *
  omega

theorem V_inj {t t' : Nat} (h : V t = V t') : t = t' := by
  rcases Nat.lt_trichotomy t t' with h1 | h1 | h1
  · have := V_lt h1; omega
  · exact h1
  · have := V_lt h1; omega

/-- a right rounding of a double's own value is that double -/
theorem right_exactD {r : UInt64} {neg : Bool} {W D t0 : Nat} (hr : Right r neg W D) (hD : 0 < D) (hW : D * V t0 = W) (hb : V t0 < 2 ^ 2097) : r = pack neg t0 ∧ t0 < infMag := by
  obtain ⟨t, rfl, hle, hi, hm⟩ := hr
  have hlt : t < infMag := by
    rcases Nat.lt_or_eq_of_le hle with h | h
    · exact h
    · have h2 := hi.mp h
      rw [← hW, show 2 * (D * V t0) = D * (2 * V t0) by ac_rfl] at h2
      have h3 := Nat.le_of_mul_le_mul_left h2 hD
      exact absurd (by rw [Nat.one_mul]; exact h3) (big_no hb)
  have h := (hm hlt t0).1
  have : t = t0 := by
    apply V_inj
    rw [← hW] at h
    have h4 : D * V t = D * V t0 := by unfold dist at h; omega
    exact Nat.eq_of_mul_eq_mul_left hD h4
  subst this
  exact ⟨rfl, hlt⟩
theorem right_exact {r : UInt64} {neg : Bool} {W t0 : Nat} (hr : Right r neg W 1) (hW : V t0 = W) (hb : W < 2 ^ 2097) : r = pack neg t0 ∧ t0 < infMag :=
  right_exactD hr (by decide) (by rw [Nat.one_mul]; exact hW) (by rw [hW]; exact hb)

theorem pow1073 : 2 ^ 1074 = 2 * 2 ^ 1073 := by rw [show 1074 = 1 + 1073 from rfl, pow_split]

theorem bnd1073 {n : Nat} (hn : n < 2 ^ 53) : n * 2 ^ 1073 < 2 ^ 2097 := by
  have e : 2 ^ 2097 = 2 ^ 1024 * 2 ^ 1073 := pow_split 1024 1073
  rw [e]
  refine Nat.mul_lt_mul_of_pos_right (Nat.lt_of_lt_of_le hn ?_) (Nat.two_pow_pos _)
  exact Nat.pow_le_pow_right (by decide) (by decide)

theorem fl_right (h : Int) : Right (fl h) (decide (h < 0)) (h.natAbs * 2 ^ 1073) 1 := by
  refine ofFrac_right (by decide) ?_ (by decide)
  rw [pow1073]
  generalize 2 ^ 1073 = K
  rw [Nat.mul_one, Nat.mul_assoc, Nat.mul_comm K 2]

/-- what is right for h/2 is fl h -/
theorem fl_of_right {r : UInt64} {h : Int} (hr : Right r (decide (h < 0)) (h.natAbs * 2 ^ 1073) 1) (hb : h.natAbs < 2 ^ 53) : r = fl h := by
  obtain ⟨t, _, hV⟩ := repr_pos h.natAbs 1073 hb (by decide) (by decide)
  rw [(right_exact hr hV (bnd1073 hb)).1, (right_exact (fl_right h) hV (bnd1073 hb)).1]

theorem fl_dec {h : Int} (hb : h.natAbs < 2 ^ 53) : ∃ m e, decode (fl h) = .fin (decide (h < 0)) m e ∧ val (fl h) = h * 2 ^ 1073 := by
  obtain ⟨t, _, hV⟩ := repr_pos h.natAbs 1073 hb (by decide) (by decide)
  obtain ⟨e1, ht⟩ := right_exact (fl_right h) hV (bnd1073 hb)
  obtain ⟨m, e, hd, hv⟩ := decode_pack (decide (h < 0)) ht
  rw [← e1] at hd
  refine ⟨m, e, hd, ?_⟩
  rw [val_eq hd, hv, hV, sgn_mul]
  have : sgn (decide (h < 0)) h.natAbs = h := by
    unfold sgn
    by_cases hn : h < 0
    · simp only [hn, decide_true, if_true]; omega
    · simp only [hn, decide_false]; simp; omega
  rw [this]
  congr 1

theorem ofInt_fl {n : Int} (hb : (2 * n).natAbs < 2 ^ 53) : ofInt n = fl (2 * n) := by
  refine fl_of_right ?_ hb
  have h := ofInt_right n
  have e1 : decide (2 * n < 0) = decide (n < 0) := by apply decide_eq_decide.mpr; omega
  have e2 : (2 * n).natAbs * 2 ^ 1073 = n.natAbs * 2 ^ 1074 := by
    rw [pow1073, Int.natAbs_mul, ← Nat.mul_assoc]
    congr 1
    exact Nat.mul_comm _ _
  rw [e1, e2]
  exact h

theorem ipow_pos (n : Nat) : (0 : Int) < 2 ^ n := by
  have := Int.ofNat_lt.mpr (Nat.two_pow_pos n)
  simpa using this

theorem natAbs_scaled (h : Int) (k : Nat) : (h * 2 ^ k).natAbs = h.natAbs * 2 ^ k := by
  rw [Int.natAbs_mul, Int.natAbs_pow]
  rfl
theorem neg_scaled (h : Int) (k : Nat) : decide (h * 2 ^ k < 0) = decide (h < 0) := by
  apply decide_eq_decide.mpr
  have hp := ipow_pos k
  constructor
  · intro hn
    by_cases h2 : h < 0
    · exact h2
    · have := Int.mul_nonneg (show 0 ≤ h by omega) (Int.le_of_lt hp)
      omega
  · intro hn
    exact Int.mul_neg_of_neg_of_pos hn hp
theorem zero_scaled {h : Int} {k : Nat} (e : h * 2 ^ k = 0) : h = 0 := by
  rcases Int.mul_eq_zero.mp e with h1 | h1
  · exact h1
  · have := ipow_pos k; omega

theorem fl_zero : zero false = fl 0 := by decide +kernel

theorem fl_add {a b : Int} (ha : a.natAbs < 2 ^ 53) (hb : b.natAbs < 2 ^ 53) (hab : (a + b).natAbs < 2 ^ 53) : add (fl a) (fl b) = fl (a + b) := by
  obtain ⟨m, e, hx, vx⟩ := fl_dec ha
  obtain ⟨k, f, hy, vy⟩ := fl_dec hb
  obtain ⟨h1, h2⟩ := add_right hx hy
  rw [vx, vy, ← Int.add_mul] at h1 h2
  by_cases h0 : a + b = 0
  · rw [h1 (by rw [h0]; simp), h0]
    have : (decide (a < 0) && decide (b < 0)) = false := by
      by_cases q : a < 0
      · have : ¬ b < 0 := by omega
        simp [this]
      · simp [q]
    rw [this, fl_zero]
  · have h := h2 (fun e => h0 (zero_scaled e))
    rw [natAbs_scaled, neg_scaled] at h
    exact fl_of_right h hab

theorem fl_sub {a b : Int} (ha : a.natAbs < 2 ^ 53) (hb : b.natAbs < 2 ^ 53) (hab : (a - b).natAbs < 2 ^ 53) : sub (fl a) (fl b) = fl (a - b) := by
  obtain ⟨m, e, hx, vx⟩ := fl_dec ha
  obtain ⟨k, f, hy, vy⟩ := fl_dec hb
  obtain ⟨h1, h2⟩ := sub_right hx hy
  rw [vx, vy, ← Int.sub_mul] at h1 h2
  by_cases h0 : a - b = 0
  · rw [h1 (by rw [h0]; simp), h0]
    have : a = b := by omega
    subst this
    have : (decide (a < 0) && !decide (a < 0)) = false := by cases decide (a < 0) <;> rfl
    rw [this, fl_zero]
  · have h := h2 (fun e => h0 (zero_scaled e))
    rw [natAbs_scaled, neg_scaled] at h
    exact fl_of_right h hab

theorem fl_mul2 {h : Int} (hb : h.natAbs < 2 ^ 52) : mul (fl 4) (fl h) = fl (2 * h) := by
  obtain ⟨m, e, hx, vx⟩ := fl_dec (h := 4) (by decide)
  obtain ⟨k, f, hy, vy⟩ := fl_dec (h := h) (by omega)
  have hr := mul_right hx hy
  rw [vx, vy, natAbs_scaled, natAbs_scaled] at hr
  obtain ⟨t, ht, hV⟩ := repr_pos (2 * h).natAbs 1073 (by omega) (by decide) (by decide)
  have hb2 : (2 * h).natAbs < 2 ^ 53 := by omega
  have e1 : (decide ((4 : Int) < 0) != decide (h < 0)) = decide (2 * h < 0) := by
    have : decide (2 * h < 0) = decide (h < 0) := by apply decide_eq_decide.mpr; omega
    rw [this]; cases decide (h < 0) <;> rfl
  rw [e1] at hr
  have hr2 := right_exactD (t0 := t) hr (Nat.two_pow_pos _) (by
    rw [hV, pow1073, Int.natAbs_mul]
    generalize 2 ^ 1073 = K
    show 2 * K * (2 * h.natAbs * K) = 4 * K * (h.natAbs * K)
    have : (4 : Nat) = 2 * 2 := rfl
    rw [this]; ac_rfl) (by rw [hV]; exact bnd1073 hb2)
  rw [hr2.1, (right_exact (fl_right (2 * h)) hV (bnd1073 hb2)).1]

theorem floorOf_val {x : UInt64} {a : Bool} {m : Nat} {e : Int} (hx : decode x = .fin a m e) : floorOf a m e = val x / 2 ^ 1074 := by
  have he := decode_ge hx
  have hv : val x = sgn a m * 2 ^ (e + 1074).toNat := by
    rw [val_eq hx, sgn_mul, Int.natCast_pow]; rfl
  rw [hv]
  unfold floorOf
  split
  · have e1 : (e + 1074).toNat = e.toNat + 1074 := by omega
    rw [e1, Int.pow_add, ← Int.mul_assoc, Int.mul_ediv_cancel _ (by have := ipow_pos 1074; omega)]
  · have e1 : 1074 = (-e).toNat + (e + 1074).toNat := by omega
    have e2 : (2 : Int) ^ 1074 = 2 ^ (-e).toNat * 2 ^ (e + 1074).toNat := by rw [← Int.pow_add, ← e1]
    rw [e2, Int.mul_ediv_mul_of_pos_left _ _ (ipow_pos _)]
    exact Int.fdiv_eq_ediv_of_nonneg _ (Int.le_of_lt (ipow_pos _))

theorem fl_finite {h : Int} (hb : h.natAbs < 2 ^ 53) : isFinite (fl h) = true := by
  obtain ⟨m, e, hd, _⟩ := fl_dec hb
  unfold isFinite; rw [hd]

theorem ipow1074 : (2 : Int) ^ 1074 = 2 * 2 ^ 1073 := by rw [show 1074 = 1 + 1073 from rfl, Int.pow_add]; rfl

theorem fl_trunc {h : Int} (hb : h.natAbs < 2 ^ 53) (h0 : 0 ≤ h) : PySem.Flt.toInt truncOf (fl h) = h / 2 := by
  obtain ⟨m, e, hd, hv⟩ := fl_dec hb
  unfold PySem.Flt.toInt
  rw [hd]
  have : decide (h < 0) = false := by simp; omega
  rw [this] at hd ⊢
  show floorOf false m e = _
  rw [floorOf_val hd, hv, ipow1074]
  exact Int.mul_ediv_mul_of_pos_left _ _ (ipow_pos _)

theorem fl_cmpInt {h n : Int} (hb : h.natAbs < 2 ^ 53) : (cmpInt (fl h) n == some Ordering.eq) = decide (h = 2 * n) := by
  obtain ⟨m, e, hd, hv⟩ := fl_dec hb
  rw [cmpInt_right hd, hv, ipow1074, ← Int.mul_assoc]
  have hp := ipow_pos 1073
  generalize (2 : Int) ^ 1073 = K at *
  by_cases q : h = 2 * n
  · subst q
    simp [Int.mul_comm]
  · have : compare (h * K) (n * 2 * K) ≠ .eq := by
      intro c
      have := Int.compare_eq_eq.mp c
      exact q (by have := Int.eq_of_mul_eq_mul_right (by omega) this; omega)
    simp [q, this]
theorem fl_cmpInt_ne {h n : Int} (hb : h.natAbs < 2 ^ 53) : (cmpInt (fl h) n != some Ordering.eq) = decide (h ≠ 2 * n) := by
  have := fl_cmpInt (n := n) hb
  unfold bne
  rw [this]
  simp

theorem round_le {W D t c : Nat} (hD : 0 < D) (h : dist W (D * V t) ≤ dist W (D * V c)) (hc : W ≤ D * V c) : V t ≤ V c := by
  refine Nat.le_of_not_lt fun q => ?_
  have := Nat.mul_lt_mul_of_pos_left q hD
  unfold dist at h
  omega
theorem round_ge {W D t c : Nat} (hD : 0 < D) (h : dist W (D * V t) ≤ dist W (D * V c)) (hc : D * V c ≤ W) : V c ≤ V t := by
  refine Nat.le_of_not_lt fun q => ?_
  have := Nat.mul_lt_mul_of_pos_left q hD
  unfold dist at h
  omega

theorem pow1059 : 2 ^ 1074 = 2 ^ 15 * 2 ^ 1059 := by rw [← Nat.pow_add]

theorem below_inf {W D c : Nat} (hD : 0 < D) (hc : W ≤ D * c) (hb : c < 2 ^ 2097) : ¬ D * ((2 ^ 54 - 1) * 2 ^ 2045) ≤ 2 * W := by
  intro h
  have h2 : D * ((2 ^ 54 - 1) * 2 ^ 2045) ≤ D * (2 * c) := by
    have : D * (2 * c) = 2 * (D * c) := by ac_rfl
    rw [this]; generalize D * ((2 ^ 54 - 1) * 2 ^ 2045) = Z at *; omega
  have h3 := Nat.le_of_mul_le_mul_left h2 hD
  exact big_no hb (by rw [Nat.one_mul]; exact h3)

theorem floor_aux {x Z d : Nat} (h : (x + 1) * 2 ^ 15 ≤ Z) (hd : d < 2 ^ 15) : x * 2 ^ 15 ≤ Z - d * 1 := by
  rw [Nat.add_mul] at h
  generalize 2 ^ 15 = K at *
  omega

theorem floor_div {a b : Int} (hb : 0 < b) (hb2 : b < 2 ^ 15) (hq1 : a / b < 2 ^ 37) (hq2 : -2 ^ 37 < a / b) :
    isFinite (ofFrac (decide (a < 0) != decide (b < 0)) a.natAbs b.natAbs) = true ∧ PySem.Flt.toInt floorOf (ofFrac (decide (a < 0) != decide (b < 0)) a.natAbs b.natAbs) = a / b := by
  have en : (decide (a < 0) != decide (b < 0)) = decide (a < 0) := by
    have : decide (b < 0) = false := by simp; omega
    rw [this]; cases decide (a < 0) <;> rfl
  rw [en]
  have hd : 0 < b.natAbs := by omega
  have hr : Right (ofFrac (decide (a < 0)) a.natAbs b.natAbs) (decide (a < 0)) (a.natAbs * 2 ^ 1074) b.natAbs := ofFrac_right hd rfl hd
  obtain ⟨t, ht, hle, hi, hm⟩ := hr
  have ed : b * (a / b) + a % b = a := Int.mul_ediv_add_emod a b
  have em1 := Int.emod_nonneg a (show b ≠ 0 by omega)
  have em2 := Int.emod_lt_of_pos a hb
  have hp := ipow_pos 1074
  have hp2 := Nat.two_pow_pos 1059
  rw [ht]
  by_cases hneg : a < 0
  · -- below nought: the quotient's size goes up
    obtain ⟨p, hpq⟩ : ∃ p : Nat, (p : Int) = -(a / b) := ⟨(-(a / b)).toNat, by
      have : a / b < 0 := Int.ediv_neg_of_neg_of_pos hneg hb
      omega⟩
    have hp0 : 0 < p := by
      have : a / b < 0 := Int.ediv_neg_of_neg_of_pos hneg hb
      omega
    have f1 : a.natAbs ≤ b.natAbs * p := by
      have : (a.natAbs : Int) ≤ (b.natAbs * p : Nat) := by
        rw [Int.natCast_mul, hpq, Int.natAbs_of_nonneg (Int.le_of_lt hb), Int.mul_neg]
        omega
      exact Int.ofNat_le.mp this
    have f2 : b.natAbs * (p - 1) + 1 ≤ a.natAbs := by
      have : ((b.natAbs * (p - 1) + 1 : Nat) : Int) ≤ a.natAbs := by
        rw [Int.natCast_add, Int.natCast_mul, Int.natCast_sub hp0, hpq, Int.natAbs_of_nonneg (Int.le_of_lt hb), Int.mul_sub, Int.mul_neg]
        have : (b * ((1 : Nat) : Int)) = b := by simp
        rw [this]
        omega
      exact Int.ofNat_le.mp this
    obtain ⟨c1, _, V1⟩ := repr_pos p 1074 (by omega) (by decide) (by decide)
    obtain ⟨c2, _, V2⟩ := repr_pos ((p - 1) * 2 ^ 15 + 1) 1059 (by omega) (by decide) (by decide)
    have g1 : a.natAbs * 2 ^ 1074 ≤ b.natAbs * V c1 := by
      rw [V1, ← Nat.mul_assoc]; exact Nat.mul_le_mul_right _ f1
    have g2 : b.natAbs * V c2 ≤ a.natAbs * 2 ^ 1074 := by
      rw [V2, pow1059, ← Nat.mul_assoc, ← Nat.mul_assoc]
      refine Nat.mul_le_mul_right _ ?_
      rw [Nat.mul_add, ← Nat.mul_assoc]
      have : (b.natAbs * (p - 1) + 1) * 2 ^ 15 ≤ a.natAbs * 2 ^ 15 := Nat.mul_le_mul_right _ f2
      omega
    have hlt : t < infMag := by
      rcases Nat.lt_or_eq_of_le hle with h | h
      · exact h
      · refine absurd (hi.mp h) (below_inf hd g1 ?_)
        rw [V1]
        calc p * 2 ^ 1074 < 2 ^ 1023 * 2 ^ 1074 := Nat.mul_lt_mul_of_pos_right (Nat.lt_of_lt_of_le (show p < 2 ^ 53 by omega) (Nat.pow_le_pow_right (by decide) (by decide))) (Nat.two_pow_pos _)
          _ = 2 ^ 2097 := by rw [← Nat.pow_add]
    have k1 := round_le hd (hm hlt c1).1 g1
    have k2 := round_ge hd (hm hlt c2).1 g2
    obtain ⟨m, e, hdec, hv⟩ := decode_pack (decide (a < 0)) hlt
    refine ⟨by unfold isFinite; rw [hdec], ?_⟩
    unfold PySem.Flt.toInt
    rw [hdec]
    show floorOf (decide (a < 0)) m e = _
    rw [floorOf_val hdec, val_pack _ hlt]
    have es : sgn (decide (a < 0)) (V t) = -(V t : Int) := by unfold sgn; simp [hneg]
    rw [es, show a / b = -(p : Int) by omega]
    rw [V1] at k1
    rw [V2] at k2
    have k3 : (p - 1) * 2 ^ 1074 < V t := by
      refine Nat.lt_of_lt_of_le ?_ k2
      rw [pow1059, ← Nat.mul_assoc]
      exact Nat.mul_lt_mul_of_pos_right (by omega) hp2
    have eK : ((2 ^ 1074 : Nat) : Int) = (2 : Int) ^ 1074 := Int.natCast_pow 2 1074
    have k1' : ((V t : Nat) : Int) ≤ p * 2 ^ 1074 := by rw [← eK, ← Int.natCast_mul]; exact Int.ofNat_le.mpr k1
    have k3' : ((p : Int) - 1) * 2 ^ 1074 < (V t : Int) := by
      have h : (((p - 1) * 2 ^ 1074 : Nat) : Int) < (V t : Int) := Int.ofNat_lt.mpr k3
      rw [Int.natCast_mul, Int.natCast_sub hp0, eK] at h
      simpa using h
    rw [Int.sub_mul, Int.one_mul] at k3'
    refine Int.le_antisymm ?_ ?_
    · refine Int.le_of_lt_add_one (Int.ediv_lt_of_lt_mul hp ?_)
      rw [Int.add_mul, Int.neg_mul, Int.one_mul]
      generalize (p : Int) * 2 ^ 1074 = Z at *
      generalize (2 : Int) ^ 1074 = K at *
      omega
    · refine (Int.le_ediv_iff_mul_le hp).mpr ?_
      rw [Int.neg_mul]
      generalize (p : Int) * 2 ^ 1074 = Z at *
      omega
  · obtain ⟨q, hqq⟩ : ∃ q : Nat, (q : Int) = a / b := ⟨(a / b).toNat, by
      have : 0 ≤ a / b := Int.ediv_nonneg (by omega) (Int.le_of_lt hb)
      omega⟩
    have f1 : b.natAbs * q ≤ a.natAbs := by
      have : ((b.natAbs * q : Nat) : Int) ≤ (a.natAbs : Int) := by
        rw [Int.natCast_mul, hqq, Int.natAbs_of_nonneg (Int.le_of_lt hb)]
        omega
      exact Int.ofNat_le.mp this
    have f2 : a.natAbs + 1 ≤ b.natAbs * (q + 1) := by
      have : ((a.natAbs + 1 : Nat) : Int) ≤ (b.natAbs * (q + 1) : Nat) := by
        rw [Int.natCast_mul, Int.natCast_add, Int.natCast_add, hqq, Int.natAbs_of_nonneg (Int.le_of_lt hb), Int.mul_add]
        have : (b * ((1 : Nat) : Int)) = b := by simp
        rw [this]
        omega
      exact Int.ofNat_le.mp this
    obtain ⟨c1, _, V1⟩ := repr_pos q 1074 (by omega) (by decide) (by decide)
    obtain ⟨c2, _, V2⟩ := repr_pos ((q + 1) * 2 ^ 15 - 1) 1059 (by omega) (by decide) (by decide)
    have g1 : b.natAbs * V c1 ≤ a.natAbs * 2 ^ 1074 := by
      rw [V1, ← Nat.mul_assoc]; exact Nat.mul_le_mul_right _ f1
    have g2 : a.natAbs * 2 ^ 1074 ≤ b.natAbs * V c2 := by
      rw [V2, pow1059, ← Nat.mul_assoc, ← Nat.mul_assoc]
      refine Nat.mul_le_mul_right _ ?_
      rw [Nat.mul_sub, ← Nat.mul_assoc]
      exact floor_aux (Nat.mul_le_mul_right _ f2) (by omega)
    have hlt : t < infMag := by
      rcases Nat.lt_or_eq_of_le hle with h | h
      · exact h
      · refine absurd (hi.mp h) (below_inf hd g2 ?_)
        rw [V2]
        calc ((q + 1) * 2 ^ 15 - 1) * 2 ^ 1059 < 2 ^ 1038 * 2 ^ 1059 := Nat.mul_lt_mul_of_pos_right (Nat.lt_of_lt_of_le (show (q + 1) * 2 ^ 15 - 1 < 2 ^ 53 by omega) (Nat.pow_le_pow_right (by decide) (by decide))) (Nat.two_pow_pos _)
          _ = 2 ^ 2097 := by rw [← Nat.pow_add]
    have k1 := round_ge hd (hm hlt c1).1 g1
    have k2 := round_le hd (hm hlt c2).1 g2
    obtain ⟨m, e, hdec, hv⟩ := decode_pack (decide (a < 0)) hlt
    refine ⟨by unfold isFinite; rw [hdec], ?_⟩
    unfold PySem.Flt.toInt
    rw [hdec]
    show floorOf (decide (a < 0)) m e = _
    rw [floorOf_val hdec, val_pack _ hlt]
    have es : sgn (decide (a < 0)) (V t) = (V t : Int) := by unfold sgn; simp [hneg]
    rw [es, ← hqq]
    rw [V1] at k1
    rw [V2] at k2
    have k3 : V t < (q + 1) * 2 ^ 1074 := by
      refine Nat.lt_of_le_of_lt k2 ?_
      rw [pow1059, ← Nat.mul_assoc]
      exact Nat.mul_lt_mul_of_pos_right (by omega) hp2
    have eK : ((2 ^ 1074 : Nat) : Int) = (2 : Int) ^ 1074 := Int.natCast_pow 2 1074
    have k1' : (q : Int) * 2 ^ 1074 ≤ ((V t : Nat) : Int) := by rw [← eK, ← Int.natCast_mul]; exact Int.ofNat_le.mpr k1
    have k3' : (V t : Int) < ((q : Int) + 1) * 2 ^ 1074 := by
      have h : (V t : Int) < (((q + 1) * 2 ^ 1074 : Nat) : Int) := Int.ofNat_lt.mpr k3
      rw [Int.natCast_mul, Int.natCast_add, eK] at h
      simpa using h
    refine Int.le_antisymm ?_ ?_
    · exact Int.le_of_lt_add_one (Int.ediv_lt_of_lt_mul hp k3')
    · exact (Int.le_ediv_iff_mul_le hp).mpr k1'
end Heb

-- PL
namespace Heb

def mo (y : Int) : Int := (235 * y - 234) / 19
def tt (y : Int) : Int := 12084 + 13753 * mo y
def qd (y : Int) : Int := mo y * 29 + tt y / 25920
def d1 (y : Int) : Int := if 3 * (qd y + 1) % 7 < 3 then qd y + 1 else qd y
def d2 (y : Int) : Int := if d1 (y + 1) - d1 y = 356 then 2 else if d1 y - d1 (y - 1) = 382 then 1 else 0
def len (y : Int) : Int := d1 (y + 1) + d2 (y + 1) - (d1 y + d2 y)
/-- long year, as the step of the months sees it -/
abbrev Lng (y : Int) : Prop := (y - 1) % 19 + 1 = 3 ∨ (y - 1) % 19 + 1 = 6 ∨ (y - 1) % 19 + 1 = 8 ∨ (y - 1) % 19 + 1 = 11 ∨ (y - 1) % 19 + 1 = 14 ∨ (y - 1) % 19 + 1 = 17 ∨ (y - 1) % 19 + 1 = 19

theorem rest19 (y : Int) : (y - 1) % 19 = 0 ∨ (y - 1) % 19 = 1 ∨ (y - 1) % 19 = 2 ∨ (y - 1) % 19 = 3 ∨ (y - 1) % 19 = 4 ∨ (y - 1) % 19 = 5 ∨ (y - 1) % 19 = 6 ∨ (y - 1) % 19 = 7 ∨ (y - 1) % 19 = 8 ∨ (y - 1) % 19 = 9 ∨ (y - 1) % 19 = 10 ∨ (y - 1) % 19 = 11 ∨ (y - 1) % 19 = 12 ∨ (y - 1) % 19 = 13 ∨ (y - 1) % 19 = 14 ∨ (y - 1) % 19 = 15 ∨ (y - 1) % 19 = 16 ∨ (y - 1) % 19 = 17 ∨ (y - 1) % 19 = 18 := by omega
theorem rest7 (y : Int) : y % 7 = 0 ∨ y % 7 = 1 ∨ y % 7 = 2 ∨ y % 7 = 3 ∨ y % 7 = 4 ∨ y % 7 = 5 ∨ y % 7 = 6 := by omega
theorem mo_long {y : Int} (h : Lng y) : mo (y + 1) = mo y + 13 := by
  unfold Lng at h; unfold mo
  rcases rest19 y with e | e | e | e | e | e | e | e | e | e | e | e | e | e | e | e | e | e | e <;> omega
theorem mo_short {y : Int} (h : ¬ Lng y) : mo (y + 1) = mo y + 12 := by
  unfold Lng at h; unfold mo
  rcases rest19 y with e | e | e | e | e | e | e | e | e | e | e | e | e | e | e | e | e | e | e <;> omega
theorem long_next {y : Int} (h : Lng y) : ¬ Lng (y + 1) := by unfold Lng at *; omega

/-- the state of a year: the day of the moon, weekday, part -/
def wd (y : Int) : Int := qd y % 7
def pt (y : Int) : Int := tt y % 25920
theorem pt_lo (y : Int) : 0 ≤ pt y ∧ pt y < 25920 := by unfold pt; omega
theorem wd_lo (y : Int) : 0 ≤ wd y ∧ wd y < 7 := by unfold wd; omega
def sh (w : Int) : Int := if w = 2 ∨ w = 4 ∨ w = 6 then 1 else 0

theorem d1_sh (y : Int) : d1 y = qd y + sh (wd y) := by
  unfold d1 sh wd
  rcases rest7 (qd y) with e | e | e | e | e | e | e <;> split <;> split <;> omega

theorem step_long {y : Int} (h : Lng y) : (pt y < 2651 ∧ qd (y + 1) = qd y + 383 ∧ pt (y + 1) = pt y + 23269) ∨ (2651 ≤ pt y ∧ qd (y + 1) = qd y + 384 ∧ pt (y + 1) = pt y - 2651) := by
  have := mo_long h
  unfold qd pt tt
  rw [this]
  omega
theorem step_short {y : Int} (h : ¬ Lng y) : (pt y < 16404 ∧ qd (y + 1) = qd y + 354 ∧ pt (y + 1) = pt y + 9516) ∨ (16404 ≤ pt y ∧ qd (y + 1) = qd y + 355 ∧ pt (y + 1) = pt y - 16404) := by
  have := mo_short h
  unfold qd pt tt
  rw [this]
  omega

/-- the two rare cases, said of the state -/
theorem gap356 (y : Int) : d1 (y + 1) - d1 y = 356 ↔ (¬ Lng y ∧ wd y = 1 ∧ 16404 ≤ pt y) := by
  rw [d1_sh, d1_sh]
  have hp := pt_lo y
  by_cases h : Lng y
  · simp only [h, not_true, false_and, iff_false]
    unfold sh wd
    rcases step_long h with ⟨_, hq, _⟩ | ⟨_, hq, _⟩ <;> rw [hq] <;> split <;> split <;> omega
  · simp only [h, not_false_eq_true, true_and]
    unfold sh wd
    rcases step_short h with ⟨_, hq, _⟩ | ⟨_, hq, _⟩ <;> rw [hq] <;> split <;> split <;> omega
theorem gap382 (y : Int) : d1 (y + 1) - d1 y = 382 ↔ (Lng y ∧ wd (y + 1) = 0 ∧ 23269 ≤ pt (y + 1)) := by
  rw [d1_sh, d1_sh]
  have hp := pt_lo y
  by_cases h : Lng y
  · simp only [h, true_and]
    unfold sh wd
    rcases step_long h with ⟨_, hq, hp'⟩ | ⟨_, hq, hp'⟩ <;> rw [hq, hp'] <;> split <;> split <;> omega
  · simp only [h, false_and, iff_false]
    unfold sh wd
    rcases step_short h with ⟨_, hq, _⟩ | ⟨_, hq, _⟩ <;> rw [hq] <;> split <;> split <;> omega

theorem d2_is (y : Int) : d2 y = if ¬ Lng y ∧ wd y = 1 ∧ 16404 ≤ pt y then 2 else if Lng (y - 1) ∧ wd y = 0 ∧ 23269 ≤ pt y then 1 else 0 := by
  have h1 := gap356 y
  have h2 := gap382 (y - 1)
  rw [Int.sub_add_cancel] at h2
  unfold d2
  by_cases a : d1 (y + 1) - d1 y = 356
  · rw [if_pos a, if_pos (h1.mp a)]
  · rw [if_neg a, if_neg (fun c => a (h1.mpr c))]
    by_cases b : d1 y - d1 (y - 1) = 382
    · rw [if_pos b, if_pos (h2.mp b)]
    · rw [if_neg b, if_neg (fun c => b (h2.mpr c))]

theorem d2_next (y : Int) : d2 (y + 1) = if ¬ Lng (y + 1) ∧ wd (y + 1) = 1 ∧ 16404 ≤ pt (y + 1) then 2 else if Lng y ∧ wd (y + 1) = 0 ∧ 23269 ≤ pt (y + 1) then 1 else 0 := by
  have h := d2_is (y + 1)
  have e : y + 1 - 1 = y := by omega
  simp only [e] at h
  exact h
theorem len_six (y : Int) : len y = 353 ∨ len y = 354 ∨ len y = 355 ∨ len y = 383 ∨ len y = 384 ∨ len y = 385 := by
  unfold len
  rw [d2_is y, d2_next, d1_sh, d1_sh]
  have hp := pt_lo y
  have hw := wd_lo y
  by_cases h : Lng y
  · have hn := long_next h
    have h' : ¬ Lng (y - 1) := fun c => by have := long_next c; rw [Int.sub_add_cancel] at this; exact this h
    simp only [h, hn, h', not_true, not_false_eq_true, false_and, true_and, if_false]
    rcases step_long h with ⟨_, hq, hp'⟩ | ⟨_, hq, hp'⟩ <;> unfold sh wd at * <;> rw [hq] <;> (try rw [hp']) <;> (repeat' split) <;> omega
  · by_cases h0 : Lng (y - 1) <;> by_cases h1 : Lng (y + 1) <;> simp only [h, h0, h1, not_true, not_false_eq_true, false_and, true_and, if_false] <;>
    (rcases step_short h with ⟨_, hq, hp'⟩ | ⟨_, hq, hp'⟩ <;> unfold sh wd at * <;> rw [hq] <;> (try rw [hp']) <;> (repeat' split) <;> omega)

/-- the law's own words -/
def lmo (y : Int) : Int := 235 * ((y - 1) / 19) + 12 * ((y - 1) % 19) + ((7 * ((y - 1) % 19) + 1) / 19)
theorem lmo_mo (y : Int) : lmo y = mo y := by unfold lmo mo; omega
def mt (y : Int) : Int := 5604 + mo y * 765433
def md (y : Int) : Int := mt y / 25920
def mp (y : Int) : Int := mt y % 25920
theorem moon (y : Int) : (mp y < 19440 ∧ qd y = md y ∧ pt y = mp y + 6480) ∨ (19440 ≤ mp y ∧ qd y = md y + 1 ∧ pt y = mp y - 19440) := by
  unfold mp md mt qd pt tt; omega
theorem mp_lo (y : Int) : 0 ≤ mp y ∧ mp y < 25920 := by unfold mp; omega
theorem put_off (y : Int) (d : Int) (hd : d = if 19440 ≤ mp y then md y + 1 else md y) : (if (d + 1) % 7 = 0 ∨ (d + 1) % 7 = 3 ∨ (d + 1) % 7 = 5 then d + 1 else d) = d1 y := by
  have : d = qd y := by
    rw [hd]
    rcases moon y with ⟨h, h1, _⟩ | ⟨h, h1, _⟩ <;> split <;> omega
  rw [this]
  unfold d1
  rcases rest7 (qd y) with e | e | e | e | e | e | e <;> split <;> split <;> omega
theorem rare_d2 (y : Int) : (if 19440 ≤ mp y then 0 else if (md y + 1) % 7 = 2 ∧ 9924 ≤ mp y ∧ ¬ Lng y then 2 else if (md y + 1) % 7 = 1 ∧ 16789 ≤ mp y ∧ Lng (y - 1) then 1 else 0) = d2 y := by
  rw [d2_is]
  have hm := mp_lo y
  unfold wd
  by_cases h : Lng y <;> by_cases h0 : Lng (y - 1) <;> simp only [h, h0, not_true, not_false_eq_true, false_and, true_and, and_true, and_false, if_false] <;>
    (rcases moon y with ⟨h, h1, h2⟩ | ⟨h, h1, h2⟩ <;> (try rw [h1]) <;> (try rw [h2]) <;> (repeat' split) <;> omega)

/-- the round of 689472 years -/
theorem mo_per (y : Int) (k : Int) : mo (y + 689472 * k) = mo y + 8527680 * k := by unfold mo; omega
theorem qd_per (y k : Int) : qd (y + 689472 * k) = qd y + 251827457 * k ∧ pt (y + 689472 * k) = pt y := by
  have := mo_per y k
  unfold qd pt tt; rw [this]; omega
theorem wd_per (y k : Int) : wd (y + 689472 * k) = wd y := by
  unfold wd; rw [(qd_per y k).1]; omega
theorem lng_per (y k : Int) : Lng (y + 689472 * k) ↔ Lng y := by unfold Lng; omega
theorem d1_per (y k : Int) : d1 (y + 689472 * k) = d1 y + 251827457 * k := by
  rw [d1_sh, d1_sh, wd_per, (qd_per y k).1]; omega
theorem d2_per (y k : Int) : d2 (y + 689472 * k) = d2 y := by
  unfold d2
  rw [show y + 689472 * k + 1 = (y + 1) + 689472 * k by omega, show y + 689472 * k - 1 = (y - 1) + 689472 * k by omega, d1_per, d1_per, d1_per]
  have e1 : d1 (y + 1) + 251827457 * k - (d1 y + 251827457 * k) = d1 (y + 1) - d1 y := by omega
  have e2 : d1 y + 251827457 * k - (d1 (y - 1) + 251827457 * k) = d1 y - d1 (y - 1) := by omega
  rw [e1, e2]

theorem d1_lo {y : Int} (h : -950 ≤ y) : -347990 ≤ d1 y := by unfold d1 qd tt mo; split <;> omega
theorem d1_hi {y : Int} (h : y ≤ 1100000000) : d1 y < 500000000000 := by unfold d1 qd tt mo; split <;> omega
theorem d2_b (y : Int) : 0 ≤ d2 y ∧ d2 y ≤ 2 := by unfold d2; split <;> (try split) <;> omega
end Heb

-- PL2
namespace Heb
def tg2 (s : Int) : Int := 7 + 689472 * ((s - 7 + 689471) / 689472)
def tg1 (s : Int) : Int := 75 + 689472 * ((s - 75 + 689471) / 689472)
theorem tg2_b (s : Int) : s ≤ tg2 s ∧ tg2 s < s + 689472 := by unfold tg2; omega
theorem tg1_b (s : Int) : s ≤ tg1 s ∧ tg1 s < s + 689472 := by unfold tg1; omega
theorem tg2_r (s : Int) : d2 (tg2 s) = 2 := by unfold tg2; rw [d2_per]; decide +kernel
theorem tg1_r (s : Int) : d2 (tg1 s) = 1 := by unfold tg1; rw [d2_per]; decide +kernel
theorem tg1_l (s : Int) : Lng (tg1 s - 1) := by
  unfold tg1
  rw [show 75 + 689472 * ((s - 75 + 689471) / 689472) - 1 = 74 + 689472 * ((s - 75 + 689471) / 689472) by omega]
  exact (lng_per _ _).mpr (by decide)
/-- what holds between the turns of the two whiles -/
theorem st2_start (s : Int) : s ≤ s ∧ s ≤ tg2 s ∧ s < s + 689472 := by have := tg2_b s; omega
theorem st1_start (s : Int) : s ≤ s ∧ s ≤ tg1 s ∧ s < s + 689472 := by have := tg1_b s; omega
theorem in2_lt {s y : Int} (h : s ≤ y ∧ y ≤ tg2 s ∧ y < s + 689472) (n : d2 y ≠ 2) : y < tg2 s := by
  have h2 := h.2.1
  by_cases e : y = tg2 s
  · rw [e] at n; exact absurd (tg2_r s) n
  · omega
theorem st2_step {s y : Int} (h : s ≤ y ∧ y ≤ tg2 s ∧ y < s + 689472) (n : d2 y ≠ 2) : s ≤ y + 1 ∧ y + 1 ≤ tg2 s ∧ y + 1 < s + 689472 := by
  have h1 := in2_lt h n
  have h2 := tg2_b s
  omega
theorem st2_m {s y : Int} (h : s ≤ y ∧ y ≤ tg2 s ∧ y < s + 689472) (n : d2 y ≠ 2) : (tg2 s - (y + 1)).toNat < (tg2 s - y).toNat := by
  have h1 := in2_lt h n
  omega
theorem in1_lt {s y : Int} (h : s ≤ y ∧ y ≤ tg1 s ∧ y < s + 689472) (n : ¬ (Lng (y - 1) ∧ d2 y = 1)) : y < tg1 s := by
  have h2 := h.2.1
  by_cases e : y = tg1 s
  · rw [e] at n; exact absurd ⟨tg1_l s, tg1_r s⟩ n
  · omega
theorem st1_step {s y : Int} (h : s ≤ y ∧ y ≤ tg1 s ∧ y < s + 689472) (n : ¬ (Lng (y - 1) ∧ d2 y = 1)) : s ≤ y + 1 ∧ y + 1 ≤ tg1 s ∧ y + 1 < s + 689472 := by
  have h1 := in1_lt h n
  have h2 := tg1_b s
  omega
theorem st1_stepA {s y : Int} (h : s ≤ y ∧ y ≤ tg1 s ∧ y < s + 689472) (n : ¬ Lng (y - 1)) : s ≤ y + 1 ∧ y + 1 ≤ tg1 s ∧ y + 1 < s + 689472 := st1_step h fun c => n c.1
theorem st1_stepB {s y : Int} (h : s ≤ y ∧ y ≤ tg1 s ∧ y < s + 689472) (n : d2 y ≠ 1) : s ≤ y + 1 ∧ y + 1 ≤ tg1 s ∧ y + 1 < s + 689472 := st1_step h fun c => n c.2
theorem st1_m {s y : Int} (h : s ≤ y ∧ y ≤ tg1 s ∧ y < s + 689472) (n : ¬ (Lng (y - 1) ∧ d2 y = 1)) : (tg1 s - (y + 1)).toNat < (tg1 s - y).toNat := by
  have h1 := in1_lt h n
  omega
theorem st1_mA {s y : Int} (h : s ≤ y ∧ y ≤ tg1 s ∧ y < s + 689472) (n : ¬ Lng (y - 1)) : (tg1 s - (y + 1)).toNat < (tg1 s - y).toNat := st1_m h fun c => n c.1
theorem st1_mB {s y : Int} (h : s ≤ y ∧ y ≤ tg1 s ∧ y < s + 689472) (n : d2 y ≠ 1) : (tg1 s - (y + 1)).toNat < (tg1 s - y).toNat := st1_m h fun c => n c.2
theorem t2_step {s y : Int} (h1 : s ≤ y) (h2 : y ≤ tg2 s) (h3 : y < s + 689472) (n : d2 y ≠ 2) : s ≤ y + 1 ∧ y + 1 ≤ tg2 s ∧ y + 1 < s + 689472 := st2_step ⟨h1, h2, h3⟩ n
theorem t2_m {s y : Int} (h1 : s ≤ y) (h2 : y ≤ tg2 s) (h3 : y < s + 689472) (n : d2 y ≠ 2) : (tg2 s - (y + 1)).toNat < (tg2 s - y).toNat := st2_m ⟨h1, h2, h3⟩ n
theorem t1_stepA {s y : Int} (h1 : s ≤ y) (h2 : y ≤ tg1 s) (h3 : y < s + 689472) (n : ¬ Lng (y - 1)) : s ≤ y + 1 ∧ y + 1 ≤ tg1 s ∧ y + 1 < s + 689472 := st1_stepA ⟨h1, h2, h3⟩ n
theorem t1_stepB {s y : Int} (h1 : s ≤ y) (h2 : y ≤ tg1 s) (h3 : y < s + 689472) (n : d2 y ≠ 1) : s ≤ y + 1 ∧ y + 1 ≤ tg1 s ∧ y + 1 < s + 689472 := st1_stepB ⟨h1, h2, h3⟩ n
theorem t1_mA {s y : Int} (h1 : s ≤ y) (h2 : y ≤ tg1 s) (h3 : y < s + 689472) (n : ¬ Lng (y - 1)) : (tg1 s - (y + 1)).toNat < (tg1 s - y).toNat := st1_mA ⟨h1, h2, h3⟩ n
theorem t1_mB {s y : Int} (h1 : s ≤ y) (h2 : y ≤ tg1 s) (h3 : y < s + 689472) (n : d2 y ≠ 1) : (tg1 s - (y + 1)).toNat < (tg1 s - y).toNat := st1_mB ⟨h1, h2, h3⟩ n
end Heb

namespace Heb
open_top hd for PySem.Challenge.rw_bf6005_01
end Heb

-- CL0
namespace Heb

def CallOk (w : World) (mean : ExcName → Option Value) (mg mb : Str → Option Value) (dep : Nat) (f : Addr) (pre : Prop) (vs : List Value) (R : Tok → Value) : Prop :=
  ∀ (news : List (Addr × Obj)) (dp un : Nat) (gd : Option (List Code)) (cn : Str) (cs : Scope) (a : Addr) (ccd : Value) (cl : List (Str × Addr)) (outer : List Env) (A₀ : Around) (base h₀ : Heap) (L : Addr) (m : Str → Option Value) (s : Shared) (Q E : Value → Shared → Prop),
    Below A₀ base outer h₀ → Fr h₀ L s.heap m → (hd.heap_39 w.params).In h₀ → News h₀ L s.heap news → Top hd.view_39 (looseW hd.view_39 []) mean mg mb h₀ → cs.kind = .function →
    pre → dp + dep < recursionLimit → un + 8 * dep < cLine →
    (∀ (t : Tok) (h' : Heap) (tk' : Nat), Fr h₀ L h' m → News h₀ L h' news → Q (R t) { s with heap := h', toks := tk' }) →
    wpAny (model PySem.Challenge.rw_bf6005_01.row.prog w) (ktrTop dp un gd cn cs L a ccd cl outer) (call (.ref f) vs) Q E s

theorem CallOk.use {w : World} {mean : ExcName → Option Value} {mg mb : Str → Option Value} {dep : Nat} {f : Addr} {pre : Prop} {vs : List Value} {R : Tok → Value}
    {news : List (Addr × Obj)} {dp un : Nat} {gd : Option (List Code)} {cn : Str} {cs : Scope} {a : Addr} {ccd : Value} {cl : List (Str × Addr)} {outer : List Env} {A₀ : Around} {base h₀ : Heap} {L : Addr} {m : Str → Option Value} {s : Shared} {Q E : Value → Shared → Prop}
    (c : CallOk w mean mg mb dep f pre vs R)
    (B : Below A₀ base outer h₀) (F : Fr h₀ L s.heap m) (X : (hd.heap_39 w.params).In h₀) (N : News h₀ L s.heap news) (T : Top hd.view_39 (looseW hd.view_39 []) mean mg mb h₀) (hk : cs.kind = .function)
    (hp : pre) (hd' : dp + dep < recursionLimit) (hu : un + 8 * dep < cLine)
    (hr : ∀ (t : Tok) (h' : Heap) (tk' : Nat), Fr h₀ L h' m → News h₀ L h' news → Q (R t) { s with heap := h', toks := tk' }) :
    wpAny (model PySem.Challenge.rw_bf6005_01.row.prog w) (ktrTop dp un gd cn cs L a ccd cl outer) (call (.ref f) vs) Q E s :=
  c news dp un gd cn cs a ccd cl outer A₀ base h₀ L m s Q E B F X N T hk hp hd' hu hr

theorem fmod_pos {a b : Int} (h : 0 ≤ b) : a.fmod b = a % b := Int.fmod_eq_emod_of_nonneg a h
theorem fdiv_pos {a b : Int} (h : 0 ≤ b) : a.fdiv b = a / b := Int.fdiv_eq_ediv_of_nonneg a h

theorem leap_cl (w mean mg mb) (y : Int) (t : Tok) : CallOk w mean mg mb 1 49 True [.int y t] (fun _ => .bool (decide ((y * 7 + 1) % 19 < 7))) := by
  w_top off
  dsimp only [CallOk]
  k_fill
  intros; rename_i hret
  refine wpAny_call ?_
  k_dflt cell_enter
  k_steps
  (rw [fmod_pos (by decide)]; exact hret 0 _ _ (by k_asm) (by k_asm))

/-- the quotient's floor, in one step -/
theorem floor_step {prog : Program} {w : World} {A : Around} {E : Value → Shared → Prop} {s : Shared} {Q : Value → Shared → Prop} {a b : Int} {t : Tok}
    (hA : A.handled = none) (hb : 0 < b) (hb2 : b < 2 ^ 15) (hq1 : a / b < 2 ^ 37) (hq2 : -2 ^ 37 < a / b)
    (h : Q (.int (a / b) s.toks) { s with toks := s.toks + 1 }) :
    wpAny (model prog w) A (call (.builtin "math.floor") [.float (Float64.ofFrac (decide (a < 0) != decide (b < 0)) a.natAbs b.natAbs) t]) Q E s := by
  obtain ⟨f1, f2⟩ := floor_div hb hb2 hq1 hq2
  refine PySem.Flt.call_floor_float hA (fun c => ?_) (fun c => ?_) (fun _ => ?_)
  · unfold Float64.isFinite at f1; unfold Float64.isNaN at c; split at c <;> simp_all
  · unfold Float64.isFinite at f1; unfold Float64.isInf at c; split at c <;> simp_all
  · rw [f2]; exact h

local macro_rules | `(tactic| walk_at "call builtin:math.floor") => `(tactic| (k_here; k_dflt (refine' floor_step ?k1 ?k2 ?k3 ?k4 ?k5 ?_; (case k1 => exact rfl); (case k2 => decide); (case k3 => decide); (case k4 => omega); (case k5 => omega); k_whole)))

theorem delay_1_cl (w mean mg mb) (y : Int) (t : Tok) : CallOk w mean mg mb 1 63 (-1000 ≤ y ∧ y ≤ 1100000000) [.int y t] (fun t => .int (d1 y) t) := by
  w_top off
  dsimp only [CallOk]
  k_fill
  intros; rename_i hret
  refine wpAny_call ?_
  k_dflt cell_enter
  k_steps
  all_goals (refine cb_retI hret ?_ (by k_asm) (by k_asm))
  · rename Int.fmod _ 7 < 3 => hb
    rw [fmod_pos (by decide)] at hb
    unfold d1 qd tt mo; rw [if_pos hb]
  · rename ¬ Int.fmod _ 7 < 3 => hb
    rw [fmod_pos (by decide)] at hb
    unfold d1 qd tt mo; rw [if_neg hb]

local macro_rules | `(tactic| walk_at "call ref") => `(tactic| (k_here; k_dflt (refine' CallOk.use (delay_1_cl _ _ _ _ _ _) ?k1 ?k2 ?k3 ?k4 ?k5 ?kK ?kp ?kd ?ku ?_; (case k1 => k_asm); (case k2 => k_asm); (case k3 => k_asm); (case k4 => k_asm); (case k5 => k_asm); (case kK => first | exact rfl | assumption); (case kp => omega); (case kd => ktr_room); (case ku => ktr_units); k_whole); intro t9 h9 tk9 F9 N9; (try dsimp only)))

theorem delay_2_cl (w mean mg mb) (y : Int) (t : Tok) : CallOk w mean mg mb 2 70 (-990 ≤ y ∧ y ≤ 1099999990) [.int y t] (fun t => .int (d2 y) t) := by
  w_top off
  dsimp only [CallOk]
  k_fill
  intros; rename_i hret
  refine wpAny_call ?_
  k_dflt cell_enter
  k_steps
  all_goals (refine cb_retI hret ?_ (by k_asm) (by k_asm))
  all_goals (unfold d2; (repeat' split) <;> omega)
end Heb

-- CL1
namespace Heb

section
variable {prog : Program} {w : World} {A : Around} {E : Value → Shared → Prop} {s : Shared} {Q : Value → Shared → Prop} {a b : Int} {x : UInt64} {t u : Tok}
theorem add_fl_step (hx : x = fl a) (ha : a.natAbs < 2 ^ 51) (hb : b.natAbs < 2 ^ 50) (h : Q (.float (fl (a + 2 * b)) s.toks) { s with toks := s.toks + 1 }) :
    wpAny (model prog w) A (binaryOp .Add (.float x t) (.int b u)) Q E s := by
  subst hx
  refine add_fi_fits (Nat.lt_of_lt_of_le hb (Nat.pow_le_pow_right (by decide) (by decide))) ?_
  rw [ofInt_fl (by omega), fl_add (by omega) (by omega) (by omega)]
  exact h
theorem half_step (hx : x = fl 1) (hb : b.natAbs < 2 ^ 50) (h : Q (.float (fl (2 * b + 1)) s.toks) { s with toks := s.toks + 1 }) :
    wpAny (model prog w) A (binaryOp .Add (.int b u) (.float x t)) Q E s := by
  subst hx
  refine add_if_fits (Nat.lt_of_lt_of_le hb (Nat.pow_le_pow_right (by decide) (by decide))) ?_
  rw [ofInt_fl (by omega), fl_add (by omega) (by omega) (by omega)]
  exact h
theorem int_fl_step (hA : A.handled = none) (ha : a.natAbs < 2 ^ 51) (h0 : 0 ≤ a) (h : Q (.int (a / 2) s.toks) { s with toks := s.toks + 1 }) :
    wpAny (model prog w) A (call (.type "int") [.float (fl a) t]) Q E s := by
  have f1 := fl_finite (h := a) (by omega)
  refine PySem.Flt.call_int_float3 hA (fun c => ?_) (fun c => ?_) (fun _ => ?_)
  · unfold Float64.isFinite at f1; unfold Float64.isNaN at c; split at c <;> simp_all
  · unfold Float64.isFinite at f1; unfold Float64.isInf at c; split at c <;> simp_all
  · rw [fl_trunc (by omega) h0]; exact h
theorem sub_fl_step (ha : a.natAbs < 2 ^ 51) (hb : b.natAbs < 2 ^ 51) (h : Q (.float (fl (a - b)) s.toks) { s with toks := s.toks + 1 }) :
    wpAny (model prog w) A (binaryOp .Sub (.float (fl a) t) (.float (fl b) u)) Q E s := by
  refine sub_float ?_
  rw [fl_sub (by omega) (by omega) (by omega)]
  exact h
theorem mul2_fl_step (ha : a.natAbs < 2 ^ 51) (h : Q (.float (fl (2 * a)) s.toks) { s with toks := s.toks + 1 }) :
    wpAny (model prog w) A (binaryOp .Mult (.int 2 u) (.float (fl a) t)) Q E s := by
  refine mul_if_fits (Nat.lt_of_lt_of_le (show (2 : Int).natAbs < 2 ^ 2 by decide) (Nat.pow_le_pow_right (by decide) (by decide))) ?_
  rw [ofInt_fl (by decide)]
  rw [show (2 : Int) * 2 = 4 by decide, fl_mul2 (by omega)]
  exact h
theorem ne_fl_step (ha : a.natAbs < 2 ^ 53) (h : Q (.bool (decide (a ≠ 2 * b))) s) :
    wpAny (model prog w) A (compareOp .NotEq (.float (fl a) t) (.int b u)) Q E s := by
  refine ne_fi ?_
  rw [fl_cmpInt_ne (by omega)]
  exact h
theorem eq_fl_step (ha : a.natAbs < 2 ^ 53) (h : Q (.bool (decide (a = 2 * b))) s) :
    wpAny (model prog w) A (compareOp .Eq (.float (fl a) t) (.int b u)) Q E s := by
  refine eq_fi ?_
  rw [fl_cmpInt (by omega)]
  exact h
def mod10 (a : Int) : Int := 2 * ((a / 2) % 10)
theorem mod10_fl (hL : a = 2 * 353 ∨ a = 2 * 354 ∨ a = 2 * 355 ∨ a = 2 * 383 ∨ a = 2 * 384 ∨ a = 2 * 385) : (Float64.divmod (fl a) (Float64.ofInt 10)).2 = fl (mod10 a) := by
  rcases hL with h | h | h | h | h | h <;> subst h <;> decide +kernel
theorem mod10_step (hA : A.handled = none) (hL : a = 2 * 353 ∨ a = 2 * 354 ∨ a = 2 * 355 ∨ a = 2 * 383 ∨ a = 2 * 384 ∨ a = 2 * 385) (h : Q (.float (fl (mod10 a)) s.toks) { s with toks := s.toks + 1 }) :
    wpAny (model prog w) A (binaryOp .Mod (.float (fl a) t) (.int 10 u)) Q E s := by
  refine PySem.Flt.mod_fi hA (fun c => ?_) (fun c => ?_) (fun _ _ => ?_)
  · exact absurd c (by decide +kernel)
  · exact absurd c (by decide)
  · rw [mod10_fl hL]; exact h
end
end Heb

-- CL2
namespace Heb
local macro_rules | `(tactic| walk_at "call ref") => `(tactic| (k_here; (with_reducible show wpAny _ _ (call (Value.ref 49) [_]) _ _ _); k_dflt (refine' CallOk.use (leap_cl _ _ _ _ _ _) ?k1 ?k2 ?k3 ?k4 ?k5 ?kK ?kp ?kd ?ku ?_; (case k1 => k_asm); (case k2 => k_asm); (case k3 => k_asm); (case k4 => k_asm); (case k5 => k_asm); (case kK => first | exact rfl | assumption); (case kp => first | exact trivial | omega); (case kd => ktr_room); (case ku => ktr_units); k_whole); intro t9 h9 tk9 F9 N9; (try dsimp only)))

theorem year_months_cl (w mean mg mb) (y : Int) (t : Tok) : CallOk w mean mg mb 2 56 True [.int y t] (fun t => .int (if (y * 7 + 1) % 19 < 7 then 13 else 12) t) := by
  w_top off
  dsimp only [CallOk]
  k_fill
  intros; rename_i hret
  refine wpAny_call ?_
  k_dflt cell_enter
  k_steps
  all_goals (refine cb_retI hret ?_ (by k_asm) (by k_asm))
  all_goals ((repeat' split) <;> first | rfl | omega | simp_all)

local macro_rules | `(tactic| walk_at "call ref") => `(tactic| (k_here; (with_reducible show wpAny _ _ (call (Value.ref 63) [_]) _ _ _); k_dflt (refine' CallOk.use (delay_1_cl _ _ _ _ _ _) ?k1 ?k2 ?k3 ?k4 ?k5 ?kK ?kp ?kd ?ku ?_; (case k1 => k_asm); (case k2 => k_asm); (case k3 => k_asm); (case k4 => k_asm); (case k5 => k_asm); (case kK => first | exact rfl | assumption); (case kp => first | exact trivial | omega); (case kd => ktr_room); (case ku => ktr_units); k_whole); intro t9 h9 tk9 F9 N9; (try dsimp only)))
local macro_rules | `(tactic| walk_at "call ref") => `(tactic| (k_here; (with_reducible show wpAny _ _ (call (Value.ref 70) [_]) _ _ _); k_dflt (refine' CallOk.use (delay_2_cl _ _ _ _ _ _) ?k1 ?k2 ?k3 ?k4 ?k5 ?kK ?kp ?kd ?ku ?_; (case k1 => k_asm); (case k2 => k_asm); (case k3 => k_asm); (case k4 => k_asm); (case k5 => k_asm); (case kK => first | exact rfl | assumption); (case kp => first | exact trivial | omega); (case kd => ktr_room); (case ku => ktr_units); k_whole); intro t9 h9 tk9 F9 N9; (try dsimp only)))
local macro_rules | `(tactic| walk_at "call ref") => `(tactic| (k_here; (with_reducible show wpAny _ _ (call (Value.ref 56) [_]) _ _ _); k_dflt (refine' CallOk.use (year_months_cl _ _ _ _ _ _) ?k1 ?k2 ?k3 ?k4 ?k5 ?kK ?kp ?kd ?ku ?_; (case k1 => k_asm); (case k2 => k_asm); (case k3 => k_asm); (case k4 => k_asm); (case k5 => k_asm); (case kK => first | exact rfl | assumption); (case kp => first | exact trivial | omega); (case kd => ktr_room); (case ku => ktr_units); k_whole); intro t9 h9 tk9 F9 N9; (try dsimp only)))
local macro_rules | `(tactic| walk_at "binaryOp Add float int") => `(tactic| (k_here; k_dflt (refine' add_fl_step (a := 695991) ?k1 ?k2 ?k3 ?_; (case k1 => decide +kernel); (case k2 => decide); (case k3 => omega); k_whole)))
local macro_rules | `(tactic| walk_at "binaryOp Add float int") => `(tactic| (k_here; k_dflt (refine' add_fl_step rfl ?k2 ?k3 ?_; (case k2 => omega); (case k3 => omega); k_whole)))
local macro_rules | `(tactic| walk_at "binaryOp Add int float") => `(tactic| (k_here; k_dflt (refine' half_step ?k1 ?k2 ?_; (case k1 => decide +kernel); (case k2 => omega); k_whole)))
local macro_rules | `(tactic| walk_at "call type:int") => `(tactic| (k_here; k_dflt (refine' int_fl_step ?k1 ?k2 ?k3 ?_; (case k1 => exact rfl); (case k2 => omega); (case k3 => omega); k_whole)))
local macro_rules | `(tactic| walk_at "binaryOp Sub float float") => `(tactic| (k_here; k_dflt (refine' sub_fl_step ?k1 ?k2 ?_; (case k1 => omega); (case k2 => omega); k_whole)))
local macro_rules | `(tactic| walk_at "binaryOp Mult int float") => `(tactic| (k_here; k_dflt (refine' mul2_fl_step ?k1 ?_; (case k1 => omega); k_whole)))
local macro_rules | `(tactic| walk_at "compareOp NotEq float int") => `(tactic| (k_here; k_dflt (refine' ne_fl_step ?k1 ?_; (case k1 => (try unfold mod10); omega); k_whole)))
local macro_rules | `(tactic| walk_at "compareOp Eq float int") => `(tactic| (k_here; k_dflt (refine' eq_fl_step ?k1 ?_; (case k1 => (try unfold mod10); omega); k_whole)))
local macro_rules | `(tactic| walk_at "binaryOp Mod float int") => `(tactic| (k_here; k_dflt (refine' mod10_step ?k1 ?k2 ?_; (case k1 => exact rfl); (case k2 => omega); k_whole)))

theorem cb_retF {h₀ h' : Heap} {L : Addr} {m : Str → Option Value} {news : List (Addr × Obj)} {s : Shared} {Q : Value → Shared → Prop} {t : Tok} {tk' : Nat} {x y : Int}
    (hret : ∀ (t : Tok) (h' : Heap) (tk' : Nat), Fr h₀ L h' m → News h₀ L h' news → Q (.float (fl x) t) { s with heap := h', toks := tk' }) (e : y = x) (F : Fr h₀ L h' m) (N : News h₀ L h' news) : Q (.float (fl y) t) { s with heap := h', toks := tk' } := by
  subst e
  exact hret t h' tk' F N

def Rg (y : Int) : Prop := -940 ≤ y ∧ y ≤ 1099999000

theorem to_jd_cl (w mean mg mb) (y : Int) (t t1 t2 : Tok) : CallOk w mean mg mb 3 98 (-940 ≤ y ∧ y ≤ 1099999000) [.int y t, .int 7 t1, .int 1 t2] (fun t => .float (fl (2 * (347998 + (d1 y + d2 y)) - 1)) t) := by
  w_top off
  dsimp only [CallOk]
  k_fill
  intros; rename_i hret
  refine wpAny_call ?_
  k_dflt cell_enter
  have q1 := d1_lo (y := y) (by omega)
  have q2 := d1_hi (y := y) (by omega)
  have q3 := d2_b y
  k_steps

  all_goals (refine cb_retF hret ?_ (by k_asm) (by k_asm))
  all_goals omega
end Heb

-- CL3
namespace Heb
local macro_rules | `(tactic| walk_at "call ref") => `(tactic| (k_here; (with_reducible show wpAny _ _ (call (Value.ref 98) [_, Value.int 7 _, Value.int 1 _]) _ _ _); k_dflt (refine' CallOk.use (to_jd_cl _ _ _ _ _ _ _ _) ?k1 ?k2 ?k3 ?k4 ?k5 ?kK ?kp ?kd ?ku ?_; (case k1 => k_asm); (case k2 => k_asm); (case k3 => k_asm); (case k4 => k_asm); (case k5 => k_asm); (case kK => first | exact rfl | assumption); (case kp => first | exact trivial | omega); (case kd => ktr_room); (case ku => ktr_units); k_whole); intro t9 h9 tk9 F9 N9; (try dsimp only)))
local macro_rules | `(tactic| walk_at "binaryOp Add float int") => `(tactic| (k_here; k_dflt (refine' add_fl_step (a := 695991) ?k1 ?k2 ?k3 ?_; (case k1 => decide +kernel); (case k2 => decide); (case k3 => omega); k_whole)))
local macro_rules | `(tactic| walk_at "binaryOp Add float int") => `(tactic| (k_here; k_dflt (refine' add_fl_step rfl ?k2 ?k3 ?_; (case k2 => omega); (case k3 => omega); k_whole)))
local macro_rules | `(tactic| walk_at "binaryOp Add int float") => `(tactic| (k_here; k_dflt (refine' half_step ?k1 ?k2 ?_; (case k1 => decide +kernel); (case k2 => omega); k_whole)))
local macro_rules | `(tactic| walk_at "call type:int") => `(tactic| (k_here; k_dflt (refine' int_fl_step ?k1 ?k2 ?k3 ?_; (case k1 => exact rfl); (case k2 => omega); (case k3 => omega); k_whole)))
local macro_rules | `(tactic| walk_at "binaryOp Sub float float") => `(tactic| (k_here; k_dflt (refine' sub_fl_step ?k1 ?k2 ?_; (case k1 => omega); (case k2 => omega); k_whole)))
local macro_rules | `(tactic| walk_at "binaryOp Mult int float") => `(tactic| (k_here; k_dflt (refine' mul2_fl_step ?k1 ?_; (case k1 => omega); k_whole)))
local macro_rules | `(tactic| walk_at "compareOp NotEq float int") => `(tactic| (k_here; k_dflt (refine' ne_fl_step ?k1 ?_; (case k1 => (try unfold mod10); omega); k_whole)))
local macro_rules | `(tactic| walk_at "compareOp Eq float int") => `(tactic| (k_here; k_dflt (refine' eq_fl_step ?k1 ?_; (case k1 => (try unfold mod10); omega); k_whole)))
local macro_rules | `(tactic| walk_at "binaryOp Mod float int") => `(tactic| (k_here; k_dflt (refine' mod10_step ?k1 ?k2 ?_; (case k1 => exact rfl); (case k2 => omega); k_whole)))

theorem year_days_cl (w mean mg mb) (y : Int) (t : Tok) : CallOk w mean mg mb 4 77 (-930 ≤ y ∧ y ≤ 1099998000) [.int y t] (fun t => .float (fl (2 * len y)) t) := by
  w_top off
  dsimp only [CallOk]
  k_fill
  intros; rename_i hret
  refine wpAny_call ?_
  k_dflt cell_enter
  have q1 := d1_lo (y := y) (by omega)
  have q2 := d1_hi (y := y) (by omega)
  have q3 := d2_b y
  have q4 := d1_lo (y := y + 1) (by omega)
  have q5 := d1_hi (y := y + 1) (by omega)
  have q6 := d2_b (y + 1)
  k_steps
  all_goals (refine cb_retF hret ?_ (by k_asm) (by k_asm))
  all_goals (unfold len; omega)

local macro_rules | `(tactic| walk_at "call ref") => `(tactic| (k_here; (with_reducible show wpAny _ _ (call (Value.ref 77) [_]) _ _ _); k_dflt (refine' CallOk.use (year_days_cl _ _ _ _ _ _) ?k1 ?k2 ?k3 ?k4 ?k5 ?kK ?kp ?kd ?ku ?_; (case k1 => k_asm); (case k2 => k_asm); (case k3 => k_asm); (case k4 => k_asm); (case k5 => k_asm); (case kK => first | exact rfl | assumption); (case kp => first | exact trivial | omega); (case kd => ktr_room); (case ku => ktr_units); k_whole); intro t9 h9 tk9 F9 N9; (try dsimp only)))

theorem month_length8_cl (w mean mg mb) (y : Int) (t t1 : Tok) : CallOk w mean mg mb 5 84 (-930 ≤ y ∧ y ≤ 1099998000) [.int y t, .int 8 t1] (fun t => .int (if len y = 355 ∨ len y = 385 then 30 else 29) t) := by
  w_top off
  dsimp only [CallOk]
  k_fill
  intros; rename_i hret
  refine wpAny_call ?_
  k_dflt cell_enter
  have q1 := len_six y
  k_steps
  all_goals (refine cb_retI hret ?_ (by k_asm) (by first | k_asm | (refine' cb_drop ?cbN ?cbS; (case cbN => assumption); (case cbS => kcj_all))))
  all_goals (unfold mod10 at *; (repeat' split) <;> omega)

theorem month_length9_cl (w mean mg mb) (y : Int) (t t1 : Tok) : CallOk w mean mg mb 5 84 (-930 ≤ y ∧ y ≤ 1099998000) [.int y t, .int 9 t1] (fun t => .int (if len y = 353 ∨ len y = 383 then 29 else 30) t) := by
  w_top off
  dsimp only [CallOk]
  k_fill
  intros; rename_i hret
  refine wpAny_call ?_
  k_dflt cell_enter
  have q1 := len_six y
  k_steps
  all_goals (refine cb_retI hret ?_ (by k_asm) (by first | k_asm | (refine' cb_drop ?cbN ?cbS; (case cbN => assumption); (case cbS => kcj_all))))
  all_goals (unfold mod10 at *; (repeat' split) <;> omega)

local macro_rules | `(tactic| walk_at "call ref") => `(tactic| (k_here; (with_reducible show wpAny _ _ (call (Value.ref 84) [_, Value.int 8 _]) _ _ _); k_dflt (refine' CallOk.use (month_length8_cl _ _ _ _ _ _ _) ?k1 ?k2 ?k3 ?k4 ?k5 ?kK ?kp ?kd ?ku ?_; (case k1 => k_asm); (case k2 => k_asm); (case k3 => k_asm); (case k4 => k_asm); (case k5 => k_asm); (case kK => first | exact rfl | assumption); (case kp => first | exact trivial | omega); (case kd => ktr_room); (case ku => ktr_units); k_whole); intro t9 h9 tk9 F9 N9; (try dsimp only)))
local macro_rules | `(tactic| walk_at "call ref") => `(tactic| (k_here; (with_reducible show wpAny _ _ (call (Value.ref 84) [_, Value.int 9 _]) _ _ _); k_dflt (refine' CallOk.use (month_length9_cl _ _ _ _ _ _ _) ?k1 ?k2 ?k3 ?k4 ?k5 ?kK ?kp ?kd ?ku ?_; (case k1 => k_asm); (case k2 => k_asm); (case k3 => k_asm); (case k4 => k_asm); (case k5 => k_asm); (case kK => first | exact rfl | assumption); (case kp => first | exact trivial | omega); (case kd => ktr_room); (case ku => ktr_units); k_whole); intro t9 h9 tk9 F9 N9; (try dsimp only)))

theorem month_days8_cl (w mean mg mb) (y : Int) (t t1 : Tok) : CallOk w mean mg mb 6 91 (-930 ≤ y ∧ y ≤ 1099998000) [.int y t, .int 8 t1] (fun t => .int (if len y = 355 ∨ len y = 385 then 30 else 29) t) := by
  w_top off
  dsimp only [CallOk]
  k_fill
  intros; rename_i hret
  refine wpAny_call ?_
  k_dflt cell_enter
  k_steps
  all_goals (refine cb_retI hret ?_ (by k_asm) (by first | k_asm | (refine' cb_drop ?cbN ?cbS; (case cbN => assumption); (case cbS => kcj_all))))
  all_goals rfl

theorem month_days9_cl (w mean mg mb) (y : Int) (t t1 : Tok) : CallOk w mean mg mb 6 91 (-930 ≤ y ∧ y ≤ 1099998000) [.int y t, .int 9 t1] (fun t => .int (if len y = 353 ∨ len y = 383 then 29 else 30) t) := by
  w_top off
  dsimp only [CallOk]
  k_fill
  intros; rename_i hret
  refine wpAny_call ?_
  k_dflt cell_enter
  k_steps
  all_goals (refine cb_retI hret ?_ (by k_asm) (by first | k_asm | (refine' cb_drop ?cbN ?cbS; (case cbN => assumption); (case cbS => kcj_all))))
  all_goals rfl
end Heb

-- CL4
namespace Heb
theorem long_any (y : Int) : ([3, 6, 8, 11, 14, 17, 19].any fun x => x == (y - 1).fmod 19 + 1) = decide (Lng y) := by
  rw [fmod_pos (by decide)]
  apply Bool.eq_iff_iff.mpr
  simp only [List.any_cons, List.any_nil, Bool.or_false, Bool.or_eq_true, beq_iff_eq, decide_eq_true_eq]
  unfold Lng
  omega

theorem law_long_cl (w mean mg mb) (y : Int) (t : Tok) : CallOk w mean mg mb 1 112 True [.int y t] (fun _ => .bool (decide (Lng y))) := by
  w_top off
  dsimp only [CallOk]
  k_fill
  intros; rename_i hret
  refine wpAny_call ?_
  k_dflt cell_enter
  k_steps
  rw [long_any]
  exact hret 0 _ _ (by k_asm) (by first | k_asm | (refine' cb_drop ?cbN ?cbS; (case cbN => assumption); (case cbS => kcj_all)))

open PySem.Calls in
/-- a def entered with the heap as it stands for its ground -/
theorem code_def_stay {prog : Program} {w : World} {A A₀ : Around} {s : Shared} {K : Frag} {L : Addr} {h₀ base : Heap} {m mg mb : Str → Option Value} {p : Program} {loose : List Str} {mean : ExcName → Option Value}
    {env : Env} {outer : List Env} {R : Result → Shared → Prop} {name qual : Str} {params : Arguments} {body : List Stmt} {scope : Scope} {dV kV doc pm cdv ct oc : Value} {an od : Option Addr} {osl : Array (Option Value)} {f : Addr} {args : Args} {binds : List (Str × Value)}
    (B : Below A₀ base outer h₀) (F : Fr h₀ L s.heap m) (X₀ : K.In h₀) (T : Top p loose mean mg mb h₀) (hA : A.frames = some (env :: outer)) (hf : env.frame = some L) (hke : env.scope.kind = .function)
    (ho : K.lookup f = some ⟨oc, od, .func (fnOf name qual params body scope dV kV doc pm an cdv ct), osl⟩) (hcd : codeIn K cdv qual = true) (hroom : A.depth < recursionLimit)
    (hbind : BindsTo s (fnOf name qual params body scope dV kV doc pm an cdv ct) args binds) (hloc : ∀ y ∈ binds, scope.names.lookup y.1 = some .local)
    (h : ∀ g L' h₁, Fr h₀ L g m → Fr g L' h₁ (fun y => binds.reverse.lookup y) → News g L' h₁ [] → Below A base (env :: outer) g → K.In g → Top p loose mean mg mb g → s.heap.StaysIn g →
      wpAny (model prog w) (A.deeper (envOf qual scope L' f cdv)) (execs body (envOf qual scope L' f cdv))
        (fun fl s' => LeaveK h₀ L m g R (match fl with | .ret v => v | _ => .none) s')
        (fun e s' => wpAny (model prog w) (A.deeper (envOf qual scope L' f cdv)) (leaving (envOf qual scope L' f cdv) e) (fun _ s'' => R (.error e) s'') (fun e' s'' => R (.error e') s'') s')
        { s with heap := h₁, toks := s.toks + binds.length })
    (hco : scope.isCoroutine = false) (hgen : scope.isGenerator = false) (hk : scope.kind = .function)
    (hcell : ∀ x ∈ scope.names, x.2 ≠ .cell) : codeAny (model prog w) A (.call (.ref f) args) R s := by
  obtain ⟨FG, BG, st, lv⟩ := groundX (R := R) B F (News.nil (h₀ := h₀) (L := L) (h := s.heap)) hA hf hke
  refine codeAny_call_def (fd := fnOf name qual params body scope dV kV doc pm an cdv ct) (body := body) (binds := binds) hroom ((X₀.keeps F.keep) _ _ ho) rfl (T.nolimit.keeps F.keep) (codeRec_of (X₀.keeps F.keep) hcd) rfl hbind hcell hloc (fun h₁ hns hk₁ => ?_) hco hgen hk
  exact wpAny_mono (h _ s.heap.objs.size h₁ FG ⟨hns, fun b o e => hk₁ b o (of_hideAll _ e), Nat.le_of_eq (hideAll_size _ _)⟩
    News.nil BG (X₀.keeps st) (T.keeps st) (fun b o e => hideAll_get _ e (by simp))) (fun fl s' hl => lv _ _ hl) fun _ _ y => y

def MoonOk (w : World) (mean : ExcName → Option Value) (mg mb : Str → Option Value) (dep : Nat) (f : Addr) (pre : Prop) (vs : List Value) (d p : Int) : Prop :=
  ∀ (news : List (Addr × Obj)) (dp un : Nat) (gd : Option (List Code)) (cn : Str) (cs : Scope) (a : Addr) (ccd : Value) (cl : List (Str × Addr)) (outer : List Env) (A₀ : Around) (base h₀ : Heap) (L : Addr) (m : Str → Option Value) (s : Shared) (Q E : Value → Shared → Prop),
    Below A₀ base outer h₀ → Fr h₀ L s.heap m → (hd.heap_39 w.params).In h₀ → News h₀ L s.heap news → Top hd.view_39 (looseW hd.view_39 []) mean mg mb h₀ → cs.kind = .function →
    pre → dp + dep < recursionLimit → un + 8 * dep < cLine →
    (∀ (D : Addr) (t1 t2 : Tok) (h' : Heap) (tk' : Nat), Fr h₀ L h' m → News h₀ L h' ((D, ({ cls := .type "tuple", data := .seq #[.int d t1, .int p t2] } : Obj)) :: news) → Q (.ref D) { s with heap := h', toks := tk' }) →
    wpAny (model PySem.Challenge.rw_bf6005_01.row.prog w) (ktrTop dp un gd cn cs L a ccd cl outer) (call (.ref f) vs) Q E s

theorem moon_d (y r : Int) (h : r = mo y) : (5 * 1080 + 204 + r * (29 * 25920 + 12 * 1080 + 793)).fdiv 25920 = md y := by
  subst h; rw [fdiv_pos (by decide)]; unfold md mt; omega
theorem moon_p (y r : Int) (h : r = mo y) : (5 * 1080 + 204 + r * (29 * 25920 + 12 * 1080 + 793)).fmod 25920 = mp y := by
  subst h; rw [fmod_pos (by decide)]; unfold mp mt; omega
theorem moon_ret {h₀ h' : Heap} {L D : Addr} {m : Str → Option Value} {news rest : List (Addr × Obj)} {s : Shared} {Q : Value → Shared → Prop} {t1 t2 : Tok} {tk' : Nat} {d d' p p' : Int}
    (hret : ∀ (D : Addr) (t1 t2 : Tok) (h' : Heap) (tk' : Nat), Fr h₀ L h' m → News h₀ L h' ((D, ({ cls := .type "tuple", data := .seq #[.int d t1, .int p t2] } : Obj)) :: news) → Q (.ref D) { s with heap := h', toks := tk' })
    (F : Fr h₀ L h' m) (N : News h₀ L h' ((D, ({ cls := .type "tuple", data := .seq #[.int d' t1, .int p' t2] } : Obj)) :: rest)) (e1 : d' = d) (e2 : p' = p) (N₀ : News h₀ L s.heap news) (st : s.heap.StaysIn h') : Q (.ref D) { s with heap := h', toks := tk' } := by
  subst e1; subst e2
  refine hret D t1 t2 h' tk' F fun q hq => ?_
  rcases List.mem_cons.mp hq with rfl | hq
  · exact N _ (.head _)
  · exact ⟨st _ _ (N₀ q hq).1, (N₀ q hq).2⟩

theorem moon_cl (w mean mg mb) (y : Int) (t : Tok) : MoonOk w mean mg mb 1 119 (-930 ≤ y ∧ y ≤ 1099998000) [.int y t] (md y) (mp y) := by
  w_top off
  dsimp only [MoonOk]
  k_fill
  intros; rename_i hret
  refine wpAny_call ?_
  k_dflt (refine' code_def_stay ?k1 ?k2 ?k3 ?k5 ?kA ?kF ?kK ?k6 ?k7 ?k8 ?k9 ?kB ?_ ?c2 ?c3 ?c4 ?c5; (case kA => exact rfl); (case kF => exact rfl); (case kK => assumption); (case k1 => k_asm); (case k2 => k_asm); (case k3 => k_asm); (case k5 => k_asm); (case k6 => k_is); (case k7 => k_is); (case k8 => ktr_room); (case k9 => exact BindsTo.of_eq rfl); (case c5 => decide); (case kB => exact locs rfl); (case c2 => exact rfl); (case c3 => exact rfl); (case c4 => exact rfl); k_whole; intro g' L' h' FG' F' N' B' X' T' st'; (try dsimp only); (try k_lift B'); (try k_fold))
  k_steps
  refine moon_ret hret (by k_asm) (by k_asm) ?_ ?_ (by assumption) (fun b o e => Fr.keep (h₀ := g') (by assumption) b o (st' b o e))
  · refine moon_d y _ ?_
    have e1 : (y - 1).fmod 19 = (y - 1) % 19 := fmod_pos (by decide)
    have e2 : (y - 1).fdiv 19 = (y - 1) / 19 := fdiv_pos (by decide)
    rw [← lmo_mo]; unfold lmo
    rcases rest19 y with e | e | e | e | e | e | e | e | e | e | e | e | e | e | e | e | e | e | e <;> omega
  · refine moon_p y _ ?_
    have e1 : (y - 1).fmod 19 = (y - 1) % 19 := fmod_pos (by decide)
    have e2 : (y - 1).fdiv 19 = (y - 1) / 19 := fdiv_pos (by decide)
    rw [← lmo_mo]; unfold lmo
    rcases rest19 y with e | e | e | e | e | e | e | e | e | e | e | e | e | e | e | e | e | e | e <;> omega
end Heb

-- CL5
namespace Heb
theorem MoonOk.use {w : World} {mean : ExcName → Option Value} {mg mb : Str → Option Value} {dep : Nat} {f : Addr} {pre : Prop} {vs : List Value} {d p : Int}
    {news : List (Addr × Obj)} {dp un : Nat} {gd : Option (List Code)} {cn : Str} {cs : Scope} {a : Addr} {ccd : Value} {cl : List (Str × Addr)} {outer : List Env} {A₀ : Around} {base h₀ : Heap} {L : Addr} {m : Str → Option Value} {s : Shared} {Q E : Value → Shared → Prop}
    (c : MoonOk w mean mg mb dep f pre vs d p)
    (B : Below A₀ base outer h₀) (F : Fr h₀ L s.heap m) (X : (hd.heap_39 w.params).In h₀) (N : News h₀ L s.heap news) (T : Top hd.view_39 (looseW hd.view_39 []) mean mg mb h₀) (hk : cs.kind = .function)
    (hp : pre) (hd' : dp + dep < recursionLimit) (hu : un + 8 * dep < cLine)
    (hr : ∀ (D : Addr) (t1 t2 : Tok) (h' : Heap) (tk' : Nat), Fr h₀ L h' m → News h₀ L h' ((D, ({ cls := .type "tuple", data := .seq #[.int d t1, .int p t2] } : Obj)) :: news) → Q (.ref D) { s with heap := h', toks := tk' }) :
    wpAny (model PySem.Challenge.rw_bf6005_01.row.prog w) (ktrTop dp un gd cn cs L a ccd cl outer) (call (.ref f) vs) Q E s :=
  c news dp un gd cn cs a ccd cl outer A₀ base h₀ L m s Q E B F X N T hk hp hd' hu hr

theorem any035 (d : Int) : ([0, 3, 5].any fun x => x == d.fmod 7) = decide (d % 7 = 0 ∨ d % 7 = 3 ∨ d % 7 = 5) := by
  rw [fmod_pos (by decide)]
  apply Bool.eq_iff_iff.mpr
  simp only [List.any_cons, List.any_nil, Bool.or_false, Bool.or_eq_true, beq_iff_eq, decide_eq_true_eq]
  omega

local macro_rules | `(tactic| walk_at "call ref") => `(tactic| (k_here; (with_reducible show wpAny _ _ (call (Value.ref 119) [_]) _ _ _); k_dflt (refine' MoonOk.use (moon_cl _ _ _ _ _ _) ?k1 ?k2 ?k3 ?k4 ?k5 ?kK ?kp ?kd ?ku ?_; (case k1 => k_asm); (case k2 => k_asm); (case k3 => k_asm); (case k4 => k_asm); (case k5 => k_asm); (case kK => first | exact rfl | assumption); (case kp => omega); (case kd => ktr_room); (case ku => ktr_units); k_whole); intro D9 t9 u9 h9 tk9 F9 N9; (try dsimp only)))

theorem law_put_off_cl (w mean mg mb) (y : Int) (t : Tok) : CallOk w mean mg mb 2 126 (-930 ≤ y ∧ y ≤ 1099998000) [.int y t] (fun t => .int (d1 y) t) := by
  w_top off
  dsimp only [CallOk]
  k_fill
  intros; rename_i hret
  refine wpAny_call ?_
  k_dflt cell_enter
  k_steps
  all_goals (refine cb_retI hret ?_ (by k_asm) (by first | k_asm | (refine' cb_drop ?cbN ?cbS; (case cbN => assumption); (case cbS => kcj_all))))
  all_goals (
    rename List.any _ _ = _ => hb
    rw [any035] at hb
    simp only [decide_eq_true_eq, decide_eq_false_iff_not] at hb
    have h := put_off y _ rfl
    rw [← h]
    (repeat' split) <;> omega)
local macro_rules | `(tactic| walk_at "call ref") => `(tactic| (k_here; (with_reducible show wpAny _ _ (call (Value.ref 112) [_]) _ _ _); k_dflt (refine' CallOk.use (law_long_cl _ _ _ _ _ _) ?k1 ?k2 ?k3 ?k4 ?k5 ?kK ?kp ?kd ?ku ?_; (case k1 => k_asm); (case k2 => k_asm); (case k3 => k_asm); (case k4 => k_asm); (case k5 => k_asm); (case kK => first | exact rfl | assumption); (case kp => first | exact trivial | omega); (case kd => ktr_room); (case ku => ktr_units); k_whole); intro t9 h9 tk9 F9 N9; (try dsimp only)))

theorem r_fm (y : Int) : (md y + 1).fmod 7 = (md y + 1) % 7 := fmod_pos (by decide)
theorem r2 (y : Int) (h0 : ¬ 18 * 1080 ≤ mp y) (h1 : (md y + 1).fmod 7 = 2) (h2 : 9 * 1080 + 204 ≤ mp y) (h3 : ¬ Lng y) : 2 = d2 y := by
  rw [r_fm] at h1; rw [← rare_d2, if_neg (by omega), if_pos ⟨h1, by omega, h3⟩]
theorem r1 (y : Int) (h0 : ¬ 18 * 1080 ≤ mp y) (h1 : (md y + 1).fmod 7 = 1) (h2 : 15 * 1080 + 589 ≤ mp y) (h3 : Lng (y - 1)) : 1 = d2 y := by
  rw [r_fm] at h1; rw [← rare_d2, if_neg (by omega), if_neg (fun c => by have := c.1; omega), if_pos ⟨h1, by omega, h3⟩]
theorem r0a (y : Int) (h0 : 18 * 1080 ≤ mp y) : 0 = d2 y := by
  rw [← rare_d2, if_pos (by omega)]
theorem r0 (y : Int) (hA : ¬ ((md y + 1) % 7 = 2 ∧ 9924 ≤ mp y ∧ ¬ Lng y)) (hB : ¬ ((md y + 1) % 7 = 1 ∧ 16789 ≤ mp y ∧ Lng (y - 1))) : 0 = d2 y := by
  rw [← rare_d2, if_neg hA, if_neg hB]
  split <;> rfl
theorem r0b (y : Int) (h1 : Lng y) (h2 : (md y + 1).fmod 7 ≠ 1) : 0 = d2 y := by
  rw [r_fm] at h2; exact r0 y (fun c => c.2.2 h1) (fun c => h2 c.1)
theorem r0c (y : Int) (h1 : ¬ 9 * 1080 + 204 ≤ mp y) (h2 : (md y + 1).fmod 7 ≠ 1) : 0 = d2 y := by
  rw [r_fm] at h2; exact r0 y (fun c => h1 (by have := c.2.1; omega)) (fun c => h2 c.1)
theorem r0d (y : Int) (h1 : (md y + 1).fmod 7 ≠ 2) (h2 : (md y + 1).fmod 7 ≠ 1) : 0 = d2 y := by
  rw [r_fm] at h1 h2; exact r0 y (fun c => h1 c.1) (fun c => h2 c.1)
theorem r0e (y : Int) (h1 : (md y + 1).fmod 7 = 1) (h2 : ¬ Lng (y - 1)) : 0 = d2 y := by
  rw [r_fm] at h1; exact r0 y (fun c => by have := c.1; omega) (fun c => h2 c.2.2)
theorem r0f (y : Int) (h1 : (md y + 1).fmod 7 = 1) (h2 : ¬ 15 * 1080 + 589 ≤ mp y) : 0 = d2 y := by
  rw [r_fm] at h1; exact r0 y (fun c => by have := c.1; omega) (fun c => h2 (by have := c.2.1; omega))
theorem r_no (y v : Int) (h1 : (md y + 1).fmod 7 = 2) (h2 : (md y + 1).fmod 7 = 1) : v = d2 y := by
  rw [h1] at h2; exact absurd h2 (by decide)

section Rare
local macro_rules | `(tactic| walk_at "execs nil") => `(tactic| (k_here; with_reducible refine wpAny_execs_nil ?_))
theorem law_rare_cl (w mean mg mb) (y : Int) (t : Tok) : CallOk w mean mg mb 2 133 (-930 ≤ y ∧ y ≤ 1099998000) [.int y t] (fun t => .int (d2 y) t) := by
  w_top off
  dsimp only [CallOk]
  k_fill
  intros; rename_i hret
  refine wpAny_call ?_
  k_dflt cell_enter
  k_steps
  all_goals (refine cb_retI hret ?_ (by k_asm) (by first | k_asm | (refine' cb_drop ?cbN ?cbS; (case cbN => assumption); (case cbS => kcj_all))))
  all_goals first
    | exact r0a y (by assumption)
    | exact r_no y _ (by assumption) (by assumption)
    | exact r2 y (by assumption) (by assumption) (by assumption) (by assumption)
    | exact r1 y (by assumption) (by assumption) (by assumption) (by assumption)
    | exact r0d y (by assumption) (by assumption)
    | exact r0b y (by assumption) (by assumption)
    | exact r0c y (by assumption) (by assumption)
    | exact r0e y (by assumption) (by assumption)
    | exact r0f y (by assumption) (by assumption)
end Rare

local macro_rules | `(tactic| walk_at "call ref") => `(tactic| (k_here; (with_reducible show wpAny _ _ (call (Value.ref 63) [_]) _ _ _); k_dflt (refine' CallOk.use (delay_1_cl _ _ _ _ _ _) ?k1 ?k2 ?k3 ?k4 ?k5 ?kK ?kp ?kd ?ku ?_; (case k1 => k_asm); (case k2 => k_asm); (case k3 => k_asm); (case k4 => k_asm); (case k5 => k_asm); (case kK => first | exact rfl | assumption); (case kp => first | exact trivial | omega); (case kd => ktr_room); (case ku => ktr_units); k_whole); intro t9 h9 tk9 F9 N9; (try dsimp only)))
local macro_rules | `(tactic| walk_at "call ref") => `(tactic| (k_here; (with_reducible show wpAny _ _ (call (Value.ref 70) [_]) _ _ _); k_dflt (refine' CallOk.use (delay_2_cl _ _ _ _ _ _) ?k1 ?k2 ?k3 ?k4 ?k5 ?kK ?kp ?kd ?ku ?_; (case k1 => k_asm); (case k2 => k_asm); (case k3 => k_asm); (case k4 => k_asm); (case k5 => k_asm); (case kK => first | exact rfl | assumption); (case kp => first | exact trivial | omega); (case kd => ktr_room); (case ku => ktr_units); k_whole); intro t9 h9 tk9 F9 N9; (try dsimp only)))
local macro_rules | `(tactic| walk_at "call ref") => `(tactic| (k_here; (with_reducible show wpAny _ _ (call (Value.ref 126) [_]) _ _ _); k_dflt (refine' CallOk.use (law_put_off_cl _ _ _ _ _ _) ?k1 ?k2 ?k3 ?k4 ?k5 ?kK ?kp ?kd ?ku ?_; (case k1 => k_asm); (case k2 => k_asm); (case k3 => k_asm); (case k4 => k_asm); (case k5 => k_asm); (case kK => first | exact rfl | assumption); (case kp => first | exact trivial | omega); (case kd => ktr_room); (case ku => ktr_units); k_whole); intro t9 h9 tk9 F9 N9; (try dsimp only)))
local macro_rules | `(tactic| walk_at "call ref") => `(tactic| (k_here; (with_reducible show wpAny _ _ (call (Value.ref 133) [_]) _ _ _); k_dflt (refine' CallOk.use (law_rare_cl _ _ _ _ _ _) ?k1 ?k2 ?k3 ?k4 ?k5 ?kK ?kp ?kd ?ku ?_; (case k1 => k_asm); (case k2 => k_asm); (case k3 => k_asm); (case k4 => k_asm); (case k5 => k_asm); (case kK => first | exact rfl | assumption); (case kp => first | exact trivial | omega); (case kd => ktr_room); (case ku => ktr_units); k_whole); intro t9 h9 tk9 F9 N9; (try dsimp only)))

theorem law_agrees_cl (w mean mg mb) (y : Int) (t : Tok) : CallOk w mean mg mb 3 140 (-930 ≤ y ∧ y ≤ 1099998000) [.int y t] (fun _ => .bool true) := by
  w_top off
  dsimp only [CallOk]
  k_fill
  intros; rename_i hret
  refine wpAny_call ?_
  k_dflt cell_enter
  k_steps
  all_goals (refine cb_retB hret ?_ (by k_asm) (by first | k_asm | (refine' cb_drop ?cbN ?cbS; (case cbN => assumption); (case cbS => kcj_all))))
  all_goals exact beq_self_eq_true _
end Heb

-- CL6
namespace Heb
section
variable {prog : Program} {w : World} {A : Around} {E : Value → Shared → Prop} {s : Shared} {Q : Value → Shared → Prop} {x : Int} {t u : Tok}
theorem start_step (h : ∀ z : Int, -900 ≤ z → z < 999999100 → Q (.int z s.toks) { s with toks := s.toks + 1 }) :
    wpAny (model prog w) A (binaryOp .Sub (.int (x.fmod (10 ^ Int.toNat 9)) t) (.int 900 u)) Q E s := by
  refine PySem.AutoIntOps.sub_0 ?_
  have e : x.fmod (10 ^ Int.toNat 9) = x % 1000000000 := Int.fmod_eq_emod_of_nonneg x (by decide)
  rw [e]
  exact h _ (by omega) (by omega)
theorem month_step (h : ∀ z : Int, 14 ≤ z → z < 114 → Q (.int z s.toks) { s with toks := s.toks + 1 }) :
    wpAny (model prog w) A (binaryOp .Add (.int 14 u) (.int (x.fmod 100) t)) Q E s := by
  refine PySem.AutoIntOps.add_0 ?_
  rw [fmod_pos (by decide)]
  exact h _ (by omega) (by omega)
theorem ifexp_join {M : Model} {n p q i j : Int} {k1 k2 : Nat} {pos1 pos2 : Pos} {env : Env} (h : Q (.int (if n = p ∨ n = q then i else j) s.toks) { s with toks := s.toks + 1 }) :
    if ([p, q].any fun x => x == n) = true then wpAny M A (eval (.Constant (.int i) k1 pos1) env) Q E s else wpAny M A (eval (.Constant (.int j) k2 pos2) env) Q E s := by
  have e : ([p, q].any fun x => x == n) = true ↔ (n = p ∨ n = q) := by
    simp only [List.any_cons, List.any_nil, Bool.or_false, Bool.or_eq_true, beq_iff_eq]
    omega
  by_cases c : n = p ∨ n = q
  · rw [if_pos (e.mpr c)]
    rw [if_pos c] at h
    exact wpAny_Constant_int h
  · rw [if_neg (fun d => c (e.mp d))]
    rw [if_neg c] at h
    exact wpAny_Constant_int h
theorem ne_self_step {a : Int} (h : Q (.bool false) s) : wpAny (model prog w) A (compareOp .NotEq (.int a t) (.int a u)) Q E s := by
  refine ne_int ?_
  have e : (a != a) = false := by simp
  rw [e]; exact h
theorem len_step {y : Int} (h : (len y = 353 ∨ len y = 354 ∨ len y = 355 ∨ len y = 383 ∨ len y = 384 ∨ len y = 385) → Q (.int (len y) s.toks) { s with toks := s.toks + 1 }) :
    wpAny (model prog w) A (binaryOp .Sub (.int (d1 (y + 1) + d2 (y + 1)) t) (.int (d1 y + d2 y) u)) Q E s := by
  refine PySem.AutoIntOps.sub_0 ?_
  exact h (len_six y)
end
local macro_rules | `(tactic| walk_at "binaryOp Sub int int") => `(tactic| (k_here; (with_reducible show wpAny _ _ (binaryOp _ (Value.int (Int.fmod _ _) _) (Value.int 900 _)) _ _ _); k_dflt (refine' start_step ?_); intro start hs1 hs2; (try dsimp only)))
local macro_rules | `(tactic| walk_at "binaryOp Sub int int") => `(tactic| (k_here; (with_reducible show wpAny _ _ (binaryOp _ (Value.int (d1 _ + d2 _) _) (Value.int (d1 _ + d2 _) _)) _ _ _); k_dflt (refine' len_step ?_); intro hlen; (try dsimp only)))
local macro_rules | `(tactic| walk_at "ite") => `(tactic| (k_here; (with_reducible show ite _ (wpAny _ _ (eval (Expr.Constant _ _ _) _) _ _ _) (wpAny _ _ (eval (Expr.Constant _ _ _) _) _ _ _)); (with_reducible refine ifexp_join ?_); (try dsimp only)))
local macro_rules | `(tactic| walk_at "compareOp NotEq int int") => `(tactic| (k_here; (with_reducible refine ne_self_step ?_); (try dsimp only)))
local macro_rules | `(tactic| walk_at "binaryOp Add int int") => `(tactic| (k_here; (with_reducible show wpAny _ _ (binaryOp _ (Value.int 14 _) (Value.int (Int.fmod _ _) _)) _ _ _); k_dflt (refine' month_step ?_); intro month hm1 hm2; (try dsimp only)))

theorem CallOk.useB {w : World} {mean : ExcName → Option Value} {mg mb : Str → Option Value} {dep : Nat} {f : Addr} {pre : Prop} {vs : List Value} {R : Tok → Value}
    {news : List (Addr × Obj)} {dp un : Nat} {gd : Option (List Code)} {cn : Str} {cs : Scope} {a : Addr} {ccd : Value} {cl : List (Str × Addr)} {outer : List Env} {A₀ : Around} {base h₀ : Heap} {L : Addr} {m : Str → Option Value} {s : Shared} {Q E : Value → Shared → Prop} {X' : Prop}
    (c : CallOk w mean mg mb dep f pre vs R) (hX : pre → X')
    (B : Below A₀ base outer h₀) (F : Fr h₀ L s.heap m) (X : (hd.heap_39 w.params).In h₀) (N : News h₀ L s.heap news) (T : Top hd.view_39 (looseW hd.view_39 []) mean mg mb h₀) (hk : cs.kind = .function)
    (hp : pre) (hd' : dp + dep < recursionLimit) (hu : un + 8 * dep < cLine)
    (hr : X' → ∀ (t : Tok) (h' : Heap) (tk' : Nat), Fr h₀ L h' m → News h₀ L h' news → Q (R t) { s with heap := h', toks := tk' }) :
    wpAny (model PySem.Challenge.rw_bf6005_01.row.prog w) (ktrTop dp un gd cn cs L a ccd cl outer) (call (.ref f) vs) Q E s :=
  c news dp un gd cn cs a ccd cl outer A₀ base h₀ L m s Q E B F X N T hk hp hd' hu (hr (hX hp))
theorem to_jd_b {y : Int} (h : -940 ≤ y ∧ y ≤ 1099999000) : -347990 ≤ d1 y ∧ d1 y < 500000000000 ∧ 0 ≤ d2 y ∧ d2 y ≤ 2 :=
  ⟨d1_lo (by omega), d1_hi (by omega), d2_b y⟩
theorem len_b {y : Int} (_ : -930 ≤ y ∧ y ≤ 1099998000) : len y = 353 ∨ len y = 354 ∨ len y = 355 ∨ len y = 383 ∨ len y = 384 ∨ len y = 385 := len_six y
local macro_rules | `(tactic| walk_at "call ref") => `(tactic| (k_here; (with_reducible show wpAny _ _ (call (Value.ref 112) [_]) _ _ _); k_dflt (refine' CallOk.use (law_long_cl _ _ _ _ _ _) ?k1 ?k2 ?k3 ?k4 ?k5 ?kK ?kp ?kd ?ku ?_; (case k1 => k_asm); (case k2 => k_asm); (case k3 => k_asm); (case k4 => k_asm); (case k5 => k_asm); (case kK => first | exact rfl | assumption); (case kp => first | exact trivial | omega); (case kd => ktr_room); (case ku => ktr_units); k_whole); intro t9 h9 tk9 F9 N9; (try dsimp only)))
local macro_rules | `(tactic| walk_at "call ref") => `(tactic| (k_here; (with_reducible show wpAny _ _ (call (Value.ref 126) [_]) _ _ _); k_dflt (refine' CallOk.use (law_put_off_cl _ _ _ _ _ _) ?k1 ?k2 ?k3 ?k4 ?k5 ?kK ?kp ?kd ?ku ?_; (case k1 => k_asm); (case k2 => k_asm); (case k3 => k_asm); (case k4 => k_asm); (case k5 => k_asm); (case kK => first | exact rfl | assumption); (case kp => first | exact trivial | omega); (case kd => ktr_room); (case ku => ktr_units); k_whole); intro t9 h9 tk9 F9 N9; (try dsimp only)))
local macro_rules | `(tactic| walk_at "call ref") => `(tactic| (k_here; (with_reducible show wpAny _ _ (call (Value.ref 133) [_]) _ _ _); k_dflt (refine' CallOk.use (law_rare_cl _ _ _ _ _ _) ?k1 ?k2 ?k3 ?k4 ?k5 ?kK ?kp ?kd ?ku ?_; (case k1 => k_asm); (case k2 => k_asm); (case k3 => k_asm); (case k4 => k_asm); (case k5 => k_asm); (case kK => first | exact rfl | assumption); (case kp => first | exact trivial | omega); (case kd => ktr_room); (case ku => ktr_units); k_whole); intro t9 h9 tk9 F9 N9; (try dsimp only)))
local macro_rules | `(tactic| walk_at "call ref") => `(tactic| (k_here; (with_reducible show wpAny _ _ (call (Value.ref 140) [_]) _ _ _); k_dflt (refine' CallOk.use (law_agrees_cl _ _ _ _ _ _) ?k1 ?k2 ?k3 ?k4 ?k5 ?kK ?kp ?kd ?ku ?_; (case k1 => k_asm); (case k2 => k_asm); (case k3 => k_asm); (case k4 => k_asm); (case k5 => k_asm); (case kK => first | exact rfl | assumption); (case kp => first | exact trivial | omega); (case kd => ktr_room); (case ku => ktr_units); k_whole); intro t9 h9 tk9 F9 N9; (try dsimp only)))
local macro_rules | `(tactic| walk_at "call ref") => `(tactic| (k_here; (with_reducible show wpAny _ _ (call (Value.ref 98) [_, Value.int 7 _, Value.int 1 _]) _ _ _); k_dflt (refine' CallOk.useB (to_jd_cl _ _ _ _ _ _ _ _) ?kX ?k1 ?k2 ?k3 ?k4 ?k5 ?kK ?kp ?kd ?ku ?_; (case kX => exact to_jd_b); (case k1 => k_asm); (case k2 => k_asm); (case k3 => k_asm); (case k4 => k_asm); (case k5 => k_asm); (case kK => first | exact rfl | assumption); (case kp => first | exact trivial | omega); (case kd => ktr_room); (case ku => ktr_units); k_whole); intro hB9 t9 h9 tk9 F9 N9; (try dsimp only)))
local macro_rules | `(tactic| walk_at "call ref") => `(tactic| (k_here; (with_reducible show wpAny _ _ (call (Value.ref 77) [_]) _ _ _); k_dflt (refine' CallOk.useB (year_days_cl _ _ _ _ _ _) ?kX ?k1 ?k2 ?k3 ?k4 ?k5 ?kK ?kp ?kd ?ku ?_; (case kX => exact len_b); (case k1 => k_asm); (case k2 => k_asm); (case k3 => k_asm); (case k4 => k_asm); (case k5 => k_asm); (case kK => first | exact rfl | assumption); (case kp => first | exact trivial | omega); (case kd => ktr_room); (case ku => ktr_units); k_whole); intro hB9 t9 h9 tk9 F9 N9; (try dsimp only)))
local macro_rules | `(tactic| walk_at "call ref") => `(tactic| (k_here; (with_reducible show wpAny _ _ (call (Value.ref 91) [_, Value.int 8 _]) _ _ _); k_dflt (refine' CallOk.useB (month_days8_cl _ _ _ _ _ _ _) ?kX ?k1 ?k2 ?k3 ?k4 ?k5 ?kK ?kp ?kd ?ku ?_; (case kX => exact len_b); (case k1 => k_asm); (case k2 => k_asm); (case k3 => k_asm); (case k4 => k_asm); (case k5 => k_asm); (case kK => first | exact rfl | assumption); (case kp => first | exact trivial | omega); (case kd => ktr_room); (case ku => ktr_units); k_whole); intro hB9 t9 h9 tk9 F9 N9; (try dsimp only)))
local macro_rules | `(tactic| walk_at "call ref") => `(tactic| (k_here; (with_reducible show wpAny _ _ (call (Value.ref 91) [_, Value.int 9 _]) _ _ _); k_dflt (refine' CallOk.useB (month_days9_cl _ _ _ _ _ _ _) ?kX ?k1 ?k2 ?k3 ?k4 ?k5 ?kK ?kp ?kd ?ku ?_; (case kX => exact len_b); (case k1 => k_asm); (case k2 => k_asm); (case k3 => k_asm); (case k4 => k_asm); (case k5 => k_asm); (case kK => first | exact rfl | assumption); (case kp => first | exact trivial | omega); (case kd => ktr_room); (case ku => ktr_units); k_whole); intro hB9 t9 h9 tk9 F9 N9; (try dsimp only)))
local macro_rules | `(tactic| walk_at "binaryOp Add float int") => `(tactic| (k_here; k_dflt (refine' add_fl_step (a := 695991) ?k1 ?k2 ?k3 ?_; (case k1 => decide +kernel); (case k2 => decide); (case k3 => omega); k_whole)))
local macro_rules | `(tactic| walk_at "binaryOp Add float int") => `(tactic| (k_here; k_dflt (refine' add_fl_step rfl ?k2 ?k3 ?_; (case k2 => omega); (case k3 => omega); k_whole)))
local macro_rules | `(tactic| walk_at "binaryOp Add int float") => `(tactic| (k_here; k_dflt (refine' half_step ?k1 ?k2 ?_; (case k1 => decide +kernel); (case k2 => omega); k_whole)))
local macro_rules | `(tactic| walk_at "call type:int") => `(tactic| (k_here; k_dflt (refine' int_fl_step ?k1 ?k2 ?k3 ?_; (case k1 => exact rfl); (case k2 => omega); (case k3 => omega); k_whole)))
local macro_rules | `(tactic| walk_at "binaryOp Sub float float") => `(tactic| (k_here; k_dflt (refine' sub_fl_step ?k1 ?k2 ?_; (case k1 => omega); (case k2 => omega); k_whole)))
local macro_rules | `(tactic| walk_at "binaryOp Mult int float") => `(tactic| (k_here; k_dflt (refine' mul2_fl_step ?k1 ?_; (case k1 => omega); k_whole)))
local macro_rules | `(tactic| walk_at "compareOp NotEq float int") => `(tactic| (k_here; k_dflt (refine' ne_fl_step ?k1 ?_; (case k1 => (try unfold mod10); omega); k_whole)))
local macro_rules | `(tactic| walk_at "compareOp Eq float int") => `(tactic| (k_here; k_dflt (refine' eq_fl_step ?k1 ?_; (case k1 => (try unfold mod10); omega); k_whole)))
local macro_rules | `(tactic| walk_at "binaryOp Mod float int") => `(tactic| (k_here; k_dflt (refine' mod10_step ?k1 ?k2 ?_; (case k1 => exact rfl); (case k2 => omega); k_whole)))

theorem law_walk : PySem.Challenge.rw_bf6005_01.Holds := hd (by
  (k_with "exec While Compare cons nil" => k_while_given ["year!"] (fun y0 script year => y0 ≤ year ∧ year ≤ tg2 y0 ∧ year < y0 + 689472) (fun y0 script year => (tg2 y0 - year).toNat) "year")
  (k_with "exec While BoolOp cons nil" => k_while_given ["year!"] (fun y0 script year => y0 ≤ year ∧ year ≤ tg1 y0 ∧ year < y0 + 689472) (fun y0 script year => (tg1 y0 - year).toNat) "year")
  (k_with "state" => first | exact st2_start _ | exact st1_start _ | exact t2_step (by assumption) (by assumption) (by assumption) (by assumption) | exact t1_stepA (by assumption) (by assumption) (by assumption) (by assumption) | exact t1_stepB (by assumption) (by assumption) (by assumption) (by assumption))
  (k_with "measure" => first | exact t2_m (by assumption) (by assumption) (by assumption) (by assumption) | exact t1_mA (by assumption) (by assumption) (by assumption) (by assumption) | exact t1_mB (by assumption) (by assumption) (by assumption) (by assumption))
  k_go0; (all_goals try k_fold)
  k_steps
  (all_goals (try k_data)))
end Heb

theorem PySem.Challenge.cw_bf6005_01_holds : PySem.Challenge.rw_bf6005_01.Holds :=
  Heb.law_walk
