import PyProof.Rows.All
import Wide.All
import OpenK.AllK
import Wide.FinOn
import Flt.RightMore
import Flt.Calls
import Lean
import PySem.Challenge.RW_ad5028_01
set_option Elab.async false
set_option linter.unusedVariables false
namespace Mine
section
open PySem PySem.W PyProof.Rows
set_option maxRecDepth 100000
set_option maxHeartbeats 8000000
open_top hd for PySem.Challenge.rw_ad5028_01
end
section
open PySem PySem.Float64

theorem rep_nat (q k : Nat) (hq : q < 2 ^ 53) (hk : 52 ≤ k) (hk2 : k ≤ 1100) : ∃ t, t < infMag ∧ V t = q * 2 ^ k := by
  have hi : infMag = 2047 * 2 ^ 52 := rfl
  rcases Nat.eq_zero_or_pos q with rfl | hpos
  · exact ⟨0, by decide, by simp [V_zero]⟩
  · have hne : q ≠ 0 := by omega
    have h1 := Nat.log2_self_le hne
    have h2 := @Nat.lt_log2_self q
    have h3 : q.log2 < 53 := (Nat.log2_lt hne).mpr hq
    have e : q.log2 + (52 - q.log2) = 52 := by omega
    have e' : q.log2 + 1 + (52 - q.log2) = 53 := by omega
    have h4 : 2 ^ 52 ≤ q * 2 ^ (52 - q.log2) := by
      have e2 : (2 : Nat) ^ 52 = 2 ^ q.log2 * 2 ^ (52 - q.log2) := by rw [← Nat.pow_add, e]
      rw [e2]
      exact Nat.mul_le_mul_right _ h1
    have h5 : q * 2 ^ (52 - q.log2) < 2 ^ 53 := by
      have e2 : (2 : Nat) ^ 53 = 2 ^ (q.log2 + 1) * 2 ^ (52 - q.log2) := by rw [← Nat.pow_add, e']
      rw [e2]
      exact Nat.mul_lt_mul_of_pos_right h2 (Nat.two_pow_pos _)
    refine ⟨(k - (52 - q.log2)) * 2 ^ 52 + q * 2 ^ (52 - q.log2), ?_, ?_⟩
    · generalize q * 2 ^ (52 - q.log2) = z at *
      rw [hi]
      have : (k - (52 - q.log2)) * 2 ^ 52 ≤ 1100 * 2 ^ 52 := Nat.mul_le_mul_right _ (by omega)
      omega
    · rw [V_at (by omega) (.inl h4), Nat.mul_assoc, ← Nat.pow_add]
      congr 2
      omega

theorem V_top {t : Nat} (h : t < infMag) : 2 * V t < (2 ^ 54 - 1) * 2 ^ 2045 := by
  have hi : infMag = 2047 * 2 ^ 52 := rfl
  have h1 : V t ≤ V (2045 * 2 ^ 52 + (2 ^ 53 - 1)) := V_mono (by omega)
  rw [V_at (by decide) (.inl (by decide))] at h1
  have hp : 0 < 2 ^ 2045 := Nat.two_pow_pos _
  generalize (2 : Nat) ^ 2045 = K at *
  omega

theorem right_between {r : UInt64} {neg : Bool} {W D t1 t2 : Nat} (h : Right r neg W D) (hD : 0 < D) (h2 : t2 < infMag) (hlo : D * V t1 ≤ W) (hhi : W ≤ D * V t2) :
    ∃ t, t < infMag ∧ r = pack neg t ∧ t1 ≤ t ∧ t ≤ t2 := by
  obtain ⟨t, hr, hle, hov, hn⟩ := h
  have htop := V_top h2
  have hlt : t < infMag := by
    rcases Nat.lt_or_ge t infMag with h | h
    · exact h
    · have e : t = infMag := by omega
      have h1 := hov.mp e
      have h3 : D * ((2 ^ 54 - 1) * 2 ^ 2045) ≤ D * (2 * V t2) := by
        calc D * ((2 ^ 54 - 1) * 2 ^ 2045) ≤ 2 * W := h1
          _ ≤ 2 * (D * V t2) := Nat.mul_le_mul_left _ hhi
          _ = D * (2 * V t2) := by rw [Nat.mul_left_comm]
      have h4 := Nat.le_of_mul_le_mul_left h3 hD
      omega
  refine ⟨t, hlt, hr, ?_, ?_⟩
  · rcases Nat.lt_or_ge t t1 with h | h
    · have hv := Nat.mul_lt_mul_of_pos_left (V_lt h) hD
      have hm := (hn hlt t1).1
      unfold dist at hm
      omega
    · exact h
  · rcases Nat.lt_or_ge t2 t with h | h
    · have hv := Nat.mul_lt_mul_of_pos_left (V_lt h) hD
      have hm := (hn hlt t2).1
      unfold dist at hm
      omega
    · exact h

theorem right_exact {r : UInt64} {neg : Bool} {W D t : Nat} (h : Right r neg W D) (hD : 0 < D) (ht : t < infMag) (hW : W = D * V t) : r = pack neg t := by
  obtain ⟨t', _, hr, h1, h2⟩ := right_between h hD ht (Nat.le_of_eq hW.symm) (Nat.le_of_eq hW)
  have : t' = t := by omega
  rw [hr, this]

/-- the double whose value is k/16 -/
@[irreducible] def Fq (k : Int) : UInt64 := ofFrac (decide (k < 0)) k.natAbs 16

theorem p1074 : (2 : Nat) ^ 1074 = 2 ^ 1070 * 16 := by rw [show (1074 : Nat) = 1070 + 4 from rfl, Nat.pow_add]
theorem p2140 : (2 : Nat) ^ 1070 * 2 ^ 1070 = 2 ^ 1074 * 2 ^ 1066 := by rw [← Nat.pow_add, ← Nat.pow_add]

theorem Fq_right (k : Int) : Right (Fq k) (decide (k < 0)) (k.natAbs * 2 ^ 1070) 1 := by
  unfold Fq
  refine ofFrac_right (by decide) ?_ (by decide)
  rw [p1074, Nat.mul_one, Nat.mul_assoc]

theorem right_Fq {r : UInt64} {neg : Bool} {W D : Nat} {k : Int} (h : Right r neg W D) (hD : 0 < D) (hneg : neg = decide (k < 0)) (hW : W = D * (k.natAbs * 2 ^ 1070)) (hk : k.natAbs < 2 ^ 53) : r = Fq k := by
  obtain ⟨t, ht, hv⟩ := rep_nat k.natAbs 1070 hk (by decide) (by decide)
  rw [right_exact h hD ht (by rw [hv]; exact hW), hneg]
  exact (right_exact (Fq_right k) (by decide) ht (by rw [hv, Nat.one_mul])).symm

theorem Fq_fin {k : Int} (hk : k.natAbs < 2 ^ 53) : (∃ m e, decode (Fq k) = .fin (decide (k < 0)) m e) ∧ val (Fq k) = k * 2 ^ 1070 := by
  obtain ⟨t, ht, hv⟩ := rep_nat k.natAbs 1070 hk (by decide) (by decide)
  have e := right_exact (Fq_right k) (by decide) ht (by rw [hv, Nat.one_mul])
  rw [e]
  constructor
  · obtain ⟨m, e, h, _⟩ := decode_pack (decide (k < 0)) ht
    exact ⟨m, e, h⟩
  · rw [val_pack _ ht, hv]
    rw [sgn_mul]
    have : ((2 ^ 1070 : Nat) : Int) = 2 ^ 1070 := by rw [Int.natCast_pow]; rfl
    rw [this]
    congr 1
    unfold sgn
    by_cases h : k < 0 <;> simp [h] <;> omega

theorem ofInt_Fq {n : Int} (hn : n.natAbs < 2 ^ 48) : ofInt n = Fq (16 * n) := by
  refine right_Fq (ofInt_right n) (by decide) ?_ ?_ (by omega)
  · apply decide_eq_decide.mpr; omega
  · rw [p1074, Nat.one_mul, show (16 * n).natAbs = n.natAbs * 16 by omega]
    generalize (2 : Nat) ^ 1070 = K
    rw [Nat.mul_assoc, Nat.mul_comm K 16]

theorem pI (n : Nat) : (0 : Int) < 2 ^ n := by
  have := Int.ofNat_lt.mpr (Nat.two_pow_pos n)
  rw [Int.natCast_pow] at this
  exact this

theorem Fq_zero : zero false = Fq 0 := by
  unfold Fq
  decide +kernel

theorem add_Fq {i j : Int} (hi : i.natAbs < 2 ^ 52) (hj : j.natAbs < 2 ^ 52) : add (Fq i) (Fq j) = Fq (i + j) := by
  obtain ⟨⟨m, e, hx⟩, vx⟩ := Fq_fin (k := i) (by omega)
  obtain ⟨⟨k, f, hy⟩, vy⟩ := Fq_fin (k := j) (by omega)
  have h := add_right hx hy
  rw [vx, vy, ← Int.add_mul] at h
  have hp := pI 1070
  by_cases h0 : i + j = 0
  · rw [h.1 (by rw [h0, Int.zero_mul]), h0, ← Fq_zero]
    have : (decide (i < 0) && decide (j < 0)) = false := by
      simp only [Bool.and_eq_false_iff, decide_eq_false_iff_not]; omega
    rw [this]
  · have hne : (i + j) * 2 ^ 1070 ≠ 0 := Int.mul_ne_zero h0 (Int.ne_of_gt hp)
    refine right_Fq (h.2 hne) (by decide) ?_ ?_ (by omega)
    · apply decide_eq_decide.mpr
      constructor
      · intro h1
        rcases Int.lt_or_le (i + j) 0 with h2 | h2
        · exact h2
        · have := Int.mul_nonneg h2 (Int.le_of_lt hp); omega
      · intro h1; exact Int.mul_neg_of_neg_of_pos h1 hp
    · rw [Nat.one_mul, Int.natAbs_mul, Int.natAbs_pow]; rfl

theorem sub_Fq {i j : Int} (hi : i.natAbs < 2 ^ 52) (hj : j.natAbs < 2 ^ 52) : sub (Fq i) (Fq j) = Fq (i - j) := by
  obtain ⟨⟨m, e, hx⟩, vx⟩ := Fq_fin (k := i) (by omega)
  obtain ⟨⟨k, f, hy⟩, vy⟩ := Fq_fin (k := j) (by omega)
  have h := sub_right hx hy
  rw [vx, vy, ← Int.sub_mul] at h
  have hp := pI 1070
  by_cases h0 : i - j = 0
  · rw [h.1 (by rw [h0, Int.zero_mul]), h0, ← Fq_zero]
    have : (decide (i < 0) && !decide (j < 0)) = false := by
      have : i = j := by omega
      subst this
      cases decide (i < 0) <;> rfl
    rw [this]
  · have hne : (i - j) * 2 ^ 1070 ≠ 0 := Int.mul_ne_zero h0 (Int.ne_of_gt hp)
    refine right_Fq (h.2 hne) (by decide) ?_ ?_ (by omega)
    · apply decide_eq_decide.mpr
      constructor
      · intro h1
        rcases Int.lt_or_le (i - j) 0 with h2 | h2
        · exact h2
        · have := Int.mul_nonneg h2 (Int.le_of_lt hp); omega
      · intro h1; exact Int.mul_neg_of_neg_of_pos h1 hp
    · rw [Nat.one_mul, Int.natAbs_mul, Int.natAbs_pow]; rfl

theorem val_nat {i : Int} : (i * 2 ^ 1070 : Int).natAbs = i.natAbs * 2 ^ 1070 := by rw [Int.natAbs_mul, Int.natAbs_pow]; rfl

theorem mul_Fq {i j k : Int} (hi : i.natAbs < 2 ^ 53) (hj : j.natAbs < 2 ^ 53) (hk : k.natAbs < 2 ^ 53) (hpos : 0 < i) (he : i * j = 16 * k) : mul (Fq i) (Fq j) = Fq k := by
  obtain ⟨⟨m, e, hx⟩, vx⟩ := Fq_fin (k := i) (by omega)
  obtain ⟨⟨n, f, hy⟩, vy⟩ := Fq_fin (k := j) (by omega)
  have h := mul_right hx hy
  rw [vx, vy, val_nat, val_nat] at h
  refine right_Fq h (Nat.two_pow_pos _) ?_ ?_ hk
  · have h1 : decide (i < 0) = false := by simp; omega
    rw [h1]
    have : (false != decide (j < 0)) = decide (j < 0) := by cases decide (j < 0) <;> rfl
    rw [this]
    apply decide_eq_decide.mpr
    constructor
    · intro h2
      have := Int.mul_neg_of_pos_of_neg hpos h2
      omega
    · intro h2
      rcases Int.lt_or_le j 0 with h3 | h3
      · exact h3
      · have := Int.mul_nonneg (Int.le_of_lt hpos) h3; omega
  · have h2 : i.natAbs * j.natAbs = 16 * k.natAbs := by
      rw [← Int.natAbs_mul, he]; omega
    calc i.natAbs * 2 ^ 1070 * (j.natAbs * 2 ^ 1070) = i.natAbs * j.natAbs * (2 ^ 1070 * 2 ^ 1070) := by
          generalize (2 : Nat) ^ 1070 = K; ac_rfl
      _ = 16 * k.natAbs * (2 ^ 1070 * 2 ^ 1070) := by rw [h2]
      _ = 2 ^ 1074 * (k.natAbs * 2 ^ 1070) := by
          rw [p1074]; generalize (2 : Nat) ^ 1070 = K; ac_rfl

/-- finite, its value between a and b, in units of 2^-22 -/
def Btw (x : UInt64) (a b : Int) : Prop := (∃ s m e, decode x = .fin s m e) ∧ a * 2 ^ 1052 ≤ val x ∧ val x ≤ b * 2 ^ 1052

theorem right_signed {r : UInt64} {neg : Bool} {W D : Nat} (h : Right r neg W D) (hD : 0 < D) {a b : Int} (ha : a.natAbs < 2 ^ 53) (hb : b.natAbs < 2 ^ 53)
    (h1 : a * 2 ^ 1052 * D ≤ sgn neg W) (h2 : sgn neg W ≤ b * 2 ^ 1052 * D) : Btw r a b := by
  obtain ⟨ta, hta, va⟩ := rep_nat a.natAbs 1052 ha (by decide) (by decide)
  obtain ⟨tb, htb, vb⟩ := rep_nat b.natAbs 1052 hb (by decide) (by decide)
  have hcast : ((2 ^ 1052 : Nat) : Int) = 2 ^ 1052 := by rw [Int.natCast_pow]; rfl
  have hp := pI 1052
  have hDi : (0 : Int) < D := Int.ofNat_lt.mpr hD
  have key : ∀ (c : Int) (t : Nat), V t = c.natAbs * 2 ^ 1052 → 0 ≤ c → ((D * V t : Nat) : Int) = c * 2 ^ 1052 * D := by
    intro c t hv hc
    rw [hv, Int.natCast_mul, Int.natCast_mul, hcast, Int.natAbs_of_nonneg hc, Int.mul_comm]
  have keyV : ∀ (c : Int) (t : Nat), V t = c.natAbs * 2 ^ 1052 → 0 ≤ c → ((V t : Nat) : Int) = c * 2 ^ 1052 := by
    intro c t hv hc
    rw [hv, Int.natCast_mul, hcast, Int.natAbs_of_nonneg hc]
  have keyn : ∀ (c : Int) (t : Nat), V t = c.natAbs * 2 ^ 1052 → c ≤ 0 → ((D * V t : Nat) : Int) = -(c * 2 ^ 1052 * D) := by
    intro c t hv hc
    have e : (c.natAbs : Int) = -c := by omega
    rw [hv, Int.natCast_mul, Int.natCast_mul, hcast, e, Int.mul_comm, Int.neg_mul, Int.neg_mul]
  have keynV : ∀ (c : Int) (t : Nat), V t = c.natAbs * 2 ^ 1052 → c ≤ 0 → ((V t : Nat) : Int) = -(c * 2 ^ 1052) := by
    intro c t hv hc
    have e : (c.natAbs : Int) = -c := by omega
    rw [hv, Int.natCast_mul, hcast, e, Int.neg_mul]
  have sg : ∀ c : Int, c < 0 → c * 2 ^ 1052 < 0 := fun c hc => Int.mul_neg_of_neg_of_pos hc hp
  have sg' : ∀ c : Int, 0 ≤ c → 0 ≤ c * 2 ^ 1052 := fun c hc => Int.mul_nonneg hc (Int.le_of_lt hp)
  cases neg with
  | false =>
    have hW : sgn false W = (W : Int) := rfl
    rw [hW] at h1 h2
    have hb0 : 0 ≤ b := by
      rcases Int.lt_or_le b 0 with hc | hc
      · have := Int.mul_neg_of_neg_of_pos (sg b hc) hDi; omega
      · exact hc
    have hhi : W ≤ D * V tb := by
      apply Int.ofNat_le.mp; rw [key b tb vb hb0]; exact h2
    have : ∃ t1, D * V t1 ≤ W ∧ a * 2 ^ 1052 ≤ (V t1 : Int) := by
      rcases Int.lt_or_le a 0 with hc | hc
      · exact ⟨0, by rw [V_zero, Nat.mul_zero]; exact Nat.zero_le _, by rw [V_zero]; exact Int.le_of_lt (sg a hc)⟩
      · exact ⟨ta, by apply Int.ofNat_le.mp; rw [key a ta va hc]; exact h1, by rw [keyV a ta va hc]; exact Int.le_refl _⟩
    obtain ⟨t1, hlo, hav⟩ := this
    obtain ⟨t, ht, hr, l1, l2⟩ := right_between h hD htb hlo hhi
    refine ⟨?_, ?_, ?_⟩
    · obtain ⟨m, e, hd, _⟩ := decode_pack false ht
      rw [hr]; exact ⟨_, m, e, hd⟩
    · rw [hr, val_pack _ ht]
      show _ ≤ (V t : Int)
      exact Int.le_trans hav (Int.ofNat_le.mpr (V_mono l1))
    · rw [hr, val_pack _ ht, ← keyV b tb vb hb0]
      exact Int.ofNat_le.mpr (V_mono l2)
  | true =>
    have hW : sgn true W = -(W : Int) := rfl
    rw [hW] at h1 h2
    have ha0 : a ≤ 0 := by
      rcases Int.lt_or_le 0 a with hc | hc
      · have := Int.mul_pos (Int.mul_pos hc hp) hDi; omega
      · exact hc
    have hhi : W ≤ D * V ta := by
      apply Int.ofNat_le.mp; rw [keyn a ta va ha0]; omega
    have : ∃ t1, D * V t1 ≤ W ∧ -(V t1 : Int) ≤ b * 2 ^ 1052 := by
      rcases Int.lt_or_le 0 b with hc | hc
      · exact ⟨0, by rw [V_zero, Nat.mul_zero]; exact Nat.zero_le _, by rw [V_zero]; have := sg' b (by omega); omega⟩
      · exact ⟨tb, by apply Int.ofNat_le.mp; rw [keyn b tb vb hc]; omega, by rw [keynV b tb vb hc]; omega⟩
    obtain ⟨t1, hlo, hav⟩ := this
    obtain ⟨t, ht, hr, l1, l2⟩ := right_between h hD hta hlo hhi
    have hs : sgn true (V t) = -(V t : Int) := rfl
    refine ⟨?_, ?_, ?_⟩
    · obtain ⟨m, e, hd, _⟩ := decode_pack true ht
      rw [hr]; exact ⟨_, m, e, hd⟩
    · rw [hr, val_pack _ ht, hs]
      have := keynV a ta va ha0
      have := Int.ofNat_le.mpr (V_mono l2)
      omega
    · rw [hr, val_pack _ ht, hs]
      have := Int.ofNat_le.mpr (V_mono l1)
      omega

theorem c1074 : (2 : Int) ^ 1074 = 2 ^ 1052 * 4194304 := by rw [show (1074 : Nat) = 1052 + 22 from rfl, Int.pow_add]; rfl
theorem c1070 : (2 : Int) ^ 1070 = 2 ^ 1052 * 262144 := by rw [show (1070 : Nat) = 1052 + 18 from rfl, Int.pow_add]; rfl
theorem n1074 : (((2 : Nat) ^ 1074 : Nat) : Int) = 2 ^ 1052 * 4194304 := by rw [Int.natCast_pow]; exact c1074

theorem btw_Fq {k : Int} (hk : k.natAbs < 2 ^ 53) : Btw (Fq k) (k * 262144) (k * 262144) := by
  obtain ⟨⟨m, e, hx⟩, vx⟩ := Fq_fin hk
  refine ⟨⟨_, m, e, hx⟩, ?_, ?_⟩ <;> (rw [vx, c1070]; generalize (2 : Int) ^ 1052 = K; rw [Int.mul_assoc, Int.mul_comm K]; exact Int.le_refl _)

theorem sgn_nat (i : Int) : sgn (decide (i < 0)) i.natAbs = i := by
  unfold sgn
  by_cases h : i < 0 <;> simp [h] <;> omega

theorem sgn_scale (b : Bool) (n k : Nat) : sgn b (n * k) = sgn b n * k := sgn_mul b n k

/-- the rounded quotient n/d, with a sign -/
theorem btw_frac {neg : Bool} {n d : Nat} {a b : Int} (hd : 0 < d) (ha : a.natAbs < 2 ^ 53) (hb : b.natAbs < 2 ^ 53) (h1 : a * d ≤ sgn neg n * 4194304) (h2 : sgn neg n * 4194304 ≤ b * d) : Btw (ofFrac neg n d) a b := by
  have hR : Right (ofFrac neg n d) neg (n * 2 ^ 1074) d := ofFrac_right hd rfl hd
  have hp := pI 1052
  refine right_signed hR hd ha hb ?_ ?_
  · rw [sgn_scale, n1074]
    have := Int.mul_le_mul_of_nonneg_left h1 (Int.le_of_lt hp)
    generalize (2 : Int) ^ 1052 = K at *
    calc a * K * d = K * (a * d) := by ac_rfl
      _ ≤ _ := this
      _ = _ := by ac_rfl
  · rw [sgn_scale, n1074]
    have := Int.mul_le_mul_of_nonneg_left h2 (Int.le_of_lt hp)
    generalize (2 : Int) ^ 1052 = K at *
    calc _ = K * (sgn neg n * 4194304) := by ac_rfl
      _ ≤ _ := this
      _ = _ := by ac_rfl

theorem sgn_xor (i j : Int) (hj : 0 < j) : sgn (decide (i < 0) != decide (j < 0)) i.natAbs = i := by
  have h1 : decide (j < 0) = false := by simp; omega
  rw [h1]
  have : (decide (i < 0) != false) = decide (i < 0) := by cases decide (i < 0) <;> rfl
  rw [this, sgn_nat]

theorem btw_quot {i j : Int} {a b : Int} (hj : 0 < j) (ha : a.natAbs < 2 ^ 53) (hb : b.natAbs < 2 ^ 53) (h1 : a * j ≤ i * 4194304) (h2 : i * 4194304 ≤ b * j) :
    Btw (ofFrac (decide (i < 0) != decide (j < 0)) i.natAbs j.natAbs) a b := by
  have e : ((j.natAbs : Nat) : Int) = j := by omega
  refine btw_frac (by omega) ha hb ?_ ?_ <;> rw [sgn_xor i j hj, e] <;> assumption

theorem btw_add {x : UInt64} {a b n : Int} (h : Btw x a b) (hn : n.natAbs < 2 ^ 48) (ha : (a + n * 4194304).natAbs < 2 ^ 53) (hb : (b + n * 4194304).natAbs < 2 ^ 53) : Btw (add x (ofInt n)) (a + n * 4194304) (b + n * 4194304) := by
  obtain ⟨⟨s, m, e, hx⟩, h1, h2⟩ := h
  obtain ⟨⟨k, f, hy⟩, vy⟩ := Fq_fin (k := 16 * n) (by omega)
  rw [ofInt_Fq hn]
  have hh := add_right hx hy
  have hp := pI 1052
  have vy' : val (Fq (16 * n)) = n * 4194304 * 2 ^ 1052 := by
    rw [vy, c1070]; generalize (2 : Int) ^ 1052 = K
    rw [Int.mul_comm K, ← Int.mul_assoc]; congr 1; omega
  have e1 : (a + n * 4194304) * 2 ^ 1052 ≤ val x + val (Fq (16 * n)) := by rw [Int.add_mul, vy']; omega
  have e2 : val x + val (Fq (16 * n)) ≤ (b + n * 4194304) * 2 ^ 1052 := by rw [Int.add_mul, vy']; omega
  by_cases h0 : val x + val (Fq (16 * n)) = 0
  · rw [hh.1 h0]
    rw [h0] at e1 e2
    have hz : ∀ q : Bool, (∃ s m e, decode (zero q) = .fin s m e) ∧ val (zero q) = 0 := by
      intro q
      have ht : 0 < infMag := by decide
      obtain ⟨m, e, hd, _⟩ := decode_pack q ht
      exact ⟨⟨_, m, e, hd⟩, by unfold zero; rw [val_pack q ht, V_zero]; cases q <;> rfl⟩
    exact ⟨(hz _).1, by rw [(hz _).2]; exact e1, by rw [(hz _).2]; exact e2⟩
  · refine right_signed (hh.2 h0) (by decide) ha hb ?_ ?_ <;> rw [sgn_nat] <;> simp only [Int.natCast_one, Int.mul_one] <;> assumption

theorem btw_sub {x : UInt64} {a b a' b' k : Int} (h : Btw x a b) (hk : k.natAbs < 2 ^ 53) (ha : a'.natAbs < 2 ^ 53) (hb : b'.natAbs < 2 ^ 53) (h1 : a' ≤ a - k * 262144) (h2 : b - k * 262144 ≤ b') (y : UInt64) (hy : Btw y (k * 262144) (k * 262144)) : Btw (sub x y) a' b' := by
  obtain ⟨⟨s, m, e, hx⟩, g1, g2⟩ := h
  obtain ⟨⟨s', k', f, hy⟩, v1, v2⟩ := hy
  have hh := sub_right hx hy
  have hp := pI 1052
  have e1 : a' * 2 ^ 1052 ≤ val x - val y := by
    have := Int.mul_le_mul_of_nonneg_right h1 (Int.le_of_lt hp)
    rw [Int.sub_mul] at this
    omega
  have e2 : val x - val y ≤ b' * 2 ^ 1052 := by
    have := Int.mul_le_mul_of_nonneg_right h2 (Int.le_of_lt hp)
    rw [Int.sub_mul] at this
    omega
  by_cases h0 : val x - val y = 0
  · rw [hh.1 h0]
    rw [h0] at e1 e2
    have hz : ∀ q : Bool, (∃ s m e, decode (zero q) = .fin s m e) ∧ val (zero q) = 0 := by
      intro q
      have ht : 0 < infMag := by decide
      obtain ⟨m, e, hd, _⟩ := decode_pack q ht
      exact ⟨⟨_, m, e, hd⟩, by unfold zero; rw [val_pack q ht, V_zero]; cases q <;> rfl⟩
    exact ⟨(hz _).1, by rw [(hz _).2]; exact e1, by rw [(hz _).2]; exact e2⟩
  · refine right_signed (hh.2 h0) (by decide) ha hb ?_ ?_ <;> rw [sgn_nat] <;> simp only [Int.natCast_one, Int.mul_one] <;> assumption
end
section
open PySem PySem.Float64 PySem.Flt

theorem btw_sub2 {x y : UInt64} {a b c d a' b' : Int} (h : Btw x a b) (hy : Btw y c d) (ha : a'.natAbs < 2 ^ 53) (hb : b'.natAbs < 2 ^ 53) (h1 : a' ≤ a - d) (h2 : b - c ≤ b') : Btw (sub x y) a' b' := by
  obtain ⟨⟨s, m, e, hx⟩, g1, g2⟩ := h
  obtain ⟨⟨s', k', f, hy⟩, v1, v2⟩ := hy
  have hh := sub_right hx hy
  have hp := pI 1052
  have e1 : a' * 2 ^ 1052 ≤ val x - val y := by
    have := Int.mul_le_mul_of_nonneg_right h1 (Int.le_of_lt hp)
    rw [Int.sub_mul] at this
    omega
  have e2 : val x - val y ≤ b' * 2 ^ 1052 := by
    have := Int.mul_le_mul_of_nonneg_right h2 (Int.le_of_lt hp)
    rw [Int.sub_mul] at this
    omega
  by_cases h0 : val x - val y = 0
  · rw [hh.1 h0]
    rw [h0] at e1 e2
    have hz : ∀ q : Bool, (∃ s m e, decode (zero q) = .fin s m e) ∧ val (zero q) = 0 := by
      intro q
      have ht : 0 < infMag := by decide
      obtain ⟨m, e, hd, _⟩ := decode_pack q ht
      exact ⟨⟨_, m, e, hd⟩, by unfold zero; rw [val_pack q ht, V_zero]; cases q <;> rfl⟩
    exact ⟨(hz _).1, by rw [(hz _).2]; exact e1, by rw [(hz _).2]; exact e2⟩
  · refine right_signed (hh.2 h0) (by decide) ha hb ?_ ?_ <;> rw [sgn_nat] <;> simp only [Int.natCast_one, Int.mul_one] <;> assumption

theorem sgn_val {x : UInt64} {s : Bool} {m : Nat} {e : Int} (hx : decode x = .fin s m e) : sgn s (val x).natAbs = val x := by
  rw [val_natAbs hx, val_eq hx]

theorem btw_div {x : UInt64} {a b a' b' j : Int} (h : Btw x a b) (hj : 0 < j) (hj2 : j < 2 ^ 53) (ha : a'.natAbs < 2 ^ 53) (hb : b'.natAbs < 2 ^ 53) (h1 : a' * j ≤ a * 16) (h2 : b * 16 ≤ b' * j) : Btw (div x (Fq j)) a' b' := by
  obtain ⟨⟨s, m, e, hx⟩, g1, g2⟩ := h
  obtain ⟨⟨k, f, hy⟩, vy⟩ := Fq_fin (k := j) (by omega)
  have hp := pI 1052
  have hk : k ≠ 0 := by
    intro h0
    have := val_eq hy
    rw [vy, h0, Nat.zero_mul] at this
    have hz : sgn (decide (j < 0)) 0 = 0 := by unfold sgn; split <;> rfl
    rw [hz] at this
    have := Int.mul_pos hj (pI 1070)
    omega
  have hh := div_right hx hy hk
  have hs : (s != decide (j < 0)) = s := by
    have h1 : decide (j < 0) = false := by simp; omega
    rw [h1]; cases s <;> rfl
  rw [hs] at hh
  have hvy : (((val (Fq j)).natAbs : Nat) : Int) = j * 262144 * 2 ^ 1052 := by
    have hnn : 0 ≤ val (Fq j) := by rw [vy]; exact Int.mul_nonneg (by omega) (Int.le_of_lt (pI _))
    rw [Int.natAbs_of_nonneg hnn, vy, c1070]
    generalize (2 : Int) ^ 1052 = K
    ac_rfl
  have hpos : 0 < (val (Fq j)).natAbs := by
    have : 0 < val (Fq j) := by rw [vy]; exact Int.mul_pos hj (pI _)
    omega
  refine right_signed hh hpos ha hb ?_ ?_
  · rw [hvy, sgn_scale, sgn_val hx, n1074]
    have q1 := Int.mul_le_mul_of_nonneg_right g1 (show (0 : Int) ≤ 2 ^ 1052 * 4194304 from Int.mul_nonneg (Int.le_of_lt hp) (by decide))
    refine Int.le_trans ?_ q1
    have q2 := Int.mul_le_mul_of_nonneg_right h1 (show (0 : Int) ≤ 2 ^ 1052 * 2 ^ 1052 * 262144 from Int.mul_nonneg (Int.mul_nonneg (Int.le_of_lt hp) (Int.le_of_lt hp)) (by decide))
    generalize (2 : Int) ^ 1052 = K at *
    calc a' * K * (j * 262144 * K) = a' * j * (K * K * 262144) := by ac_rfl
      _ ≤ a * 16 * (K * K * 262144) := q2
      _ = a * K * (K * (16 * 262144)) := by ac_rfl
      _ = _ := rfl
  · rw [hvy, sgn_scale, sgn_val hx, n1074]
    have q1 := Int.mul_le_mul_of_nonneg_right g2 (show (0 : Int) ≤ 2 ^ 1052 * 4194304 from Int.mul_nonneg (Int.le_of_lt hp) (by decide))
    refine Int.le_trans q1 ?_
    have q2 := Int.mul_le_mul_of_nonneg_right h2 (show (0 : Int) ≤ 2 ^ 1052 * 2 ^ 1052 * 262144 from Int.mul_nonneg (Int.mul_nonneg (Int.le_of_lt hp) (Int.le_of_lt hp)) (by decide))
    generalize (2 : Int) ^ 1052 = K at *
    calc b * K * (K * 4194304) = b * 16 * (K * K * 262144) := by
          rw [show (4194304 : Int) = 16 * 262144 from rfl]; ac_rfl
      _ ≤ b' * j * (K * K * 262144) := q2
      _ = _ := by ac_rfl

theorem floorOf_val {x : UInt64} {s : Bool} {m : Nat} {e : Int} (hx : decode x = .fin s m e) : floorOf s m e = val x / 2 ^ 1074 := by
  have he := decode_ge hx
  have hv : val x = sgn s m * 2 ^ (e + 1074).toNat := by
    rw [val_eq hx, sgn_mul, Int.natCast_pow]; rfl
  rw [hv]
  unfold floorOf
  split
  · rename_i h
    have e1 : (e + 1074).toNat = e.toNat + 1074 := by omega
    rw [e1, Int.pow_add, ← Int.mul_assoc, Int.mul_ediv_cancel _ (Int.ne_of_gt (pI 1074))]
  · rename_i h
    have e1 : (1074 : Nat) = (-e).toNat + (e + 1074).toNat := by omega
    rw [Int.fdiv_eq_ediv_of_nonneg _ (Int.le_of_lt (pI _))]
    conv => rhs; rw [show (2 : Int) ^ 1074 = 2 ^ ((-e).toNat + (e + 1074).toNat) by rw [← e1], Int.pow_add]
    rw [Int.mul_ediv_mul_of_pos_left _ _ (pI _)]

theorem floor_btw {x : UInt64} {a b i : Int} (h : Btw x a b) (h1 : i * 4194304 ≤ a) (h2 : b < (i + 1) * 4194304) : toInt floorOf x = i := by
  obtain ⟨⟨s, m, e, hx⟩, g1, g2⟩ := h
  rw [toInt_fin hx, floorOf_val hx]
  have hp := pI 1052
  have hp2 := pI 1074
  have l1 : i * 2 ^ 1074 ≤ val x := by
    refine Int.le_trans ?_ g1
    have := Int.mul_le_mul_of_nonneg_right h1 (Int.le_of_lt hp)
    rw [c1074]
    generalize (2 : Int) ^ 1052 = K at *
    rw [Int.mul_comm K, ← Int.mul_assoc]
    exact this
  have l2 : val x < (i + 1) * 2 ^ 1074 := by
    refine Int.lt_of_le_of_lt g2 ?_
    have := Int.mul_lt_mul_of_pos_right h2 hp
    rw [c1074]
    generalize (2 : Int) ^ 1052 = K at *
    rw [Int.mul_comm K, ← Int.mul_assoc]
    exact this
  have q1 := Int.le_ediv_of_mul_le hp2 l1
  have q2 := Int.ediv_lt_of_lt_mul hp2 l2
  exact Int.le_antisymm (Int.lt_add_one_iff.mp q2) q1

theorem floor_Fq {k : Int} (hk : k.natAbs < 2 ^ 53) : toInt floorOf (Fq k) = k / 16 := by
  refine floor_btw (btw_Fq hk) ?_ ?_ <;> omega

theorem trunc_btw {x : UInt64} {a b i : Int} (h : Btw x a b) (h0 : 0 ≤ a) (h1 : i * 4194304 ≤ a) (h2 : b < (i + 1) * 4194304) : toInt truncOf x = i := by
  have hf := floor_btw h h1 h2
  obtain ⟨⟨s, m, e, hx⟩, g1, g2⟩ := h
  rw [toInt_fin hx] at hf ⊢
  have hv := val_eq hx
  have hp := pI 1052
  have hnn : 0 ≤ val x := Int.le_trans (Int.mul_nonneg h0 (Int.le_of_lt hp)) g1
  cases s with
  | false => exact hf
  | true =>
    have hm : m = 0 := by
      have : sgn true (m * 2 ^ (e + 1074).toNat) = -((m * 2 ^ (e + 1074).toNat : Nat) : Int) := rfl
      rw [this] at hv
      have h3 : m * 2 ^ (e + 1074).toNat = 0 := by omega
      rcases Nat.mul_eq_zero.mp h3 with h | h
      · exact h
      · exact absurd h (Nat.ne_of_gt (Nat.two_pow_pos _))
    subst hm
    rw [← hf]
    unfold truncOf ceilOf floorOf sgn
    simp

theorem trunc_Fq {n : Int} (hk : n.natAbs < 2 ^ 48) : toInt truncOf (Fq (16 * n)) = n := by
  obtain ⟨⟨m, e, hx⟩, vx⟩ := Fq_fin (k := 16 * n) (by omega)
  have hf := floor_Fq (k := 16 * n) (by omega)
  rw [toInt_fin hx] at hf ⊢
  by_cases h : n < 0
  · have hs : decide (16 * n < 0) = true := by simp; omega
    rw [hs] at hx
    have hn : decode (neg (Fq (16 * n))) = .fin (!true) m e := neg_decode hx
    rw [hs]
    show -floorOf (!true) m e = n
    rw [floorOf_val hn, neg_val hx, vx]
    have e2 : -(16 * n * 2 ^ 1070) = (-n) * (2 : Int) ^ 1074 := by
      rw [show (1074 : Nat) = 4 + 1070 from rfl, Int.pow_add]
      generalize (2 : Int) ^ 1070 = K
      rw [← Int.mul_assoc, ← Int.neg_mul]
      congr 1
      omega
    rw [e2, Int.mul_ediv_cancel _ (Int.ne_of_gt (pI 1074))]
    omega
  · have hs : decide (16 * n < 0) = false := by simp; omega
    rw [hs] at hf ⊢
    show floorOf false m e = n
    rw [hf]
    omega

theorem cmpInt_Fq {k n : Int} (hk : k.natAbs < 2 ^ 53) : (cmpInt (Fq k) n == some Ordering.lt) = decide (k < 16 * n) := by
  obtain ⟨⟨m, e, hx⟩, vx⟩ := Fq_fin hk
  rw [cmpInt_right hx, vx]
  have e2 : n * (2 : Int) ^ 1074 = 16 * n * 2 ^ 1070 := by
    rw [show (1074 : Nat) = 4 + 1070 from rfl, Int.pow_add]
    generalize (2 : Int) ^ 1070 = K
    rw [← Int.mul_assoc]
    congr 1
    omega
  rw [e2]
  have hp := pI 1070
  generalize (2 : Int) ^ 1070 = K at *
  by_cases h : k < 16 * n
  · rw [Int.compare_eq_lt.mpr (Int.mul_lt_mul_of_pos_right h hp)]
    simp [h]
  · have : ¬ k * K < 16 * n * K := by
      have := Int.mul_le_mul_of_nonneg_right (show 16 * n ≤ k by omega) (Int.le_of_lt hp)
      omega
    simp only [h, decide_false]
    cases hc : compare (k * K) (16 * n * K) with
    | lt => exact absurd (Int.compare_eq_lt.mp hc) this
    | eq => rfl
    | gt => rfl

theorem ofBin_right (s : Bool) (M : Nat) (g : Int) (hg : -1074 ≤ g) : Right (ofBin s M g) s (M * 2 ^ (g + 1074).toNat) 1 := by
  unfold ofBin
  refine ofFrac_right (shift_pos _ _ _ (by decide)) ?_ (by decide)
  have := shift_one M g 1074 (by omega)
  rw [Nat.mul_one]
  exact this

theorem fmod_right {i j : Int} (hi : i.natAbs < 2 ^ 53) (hj : 0 < j) (hj2 : j < 2 ^ 53) : Right (fmod (Fq i) (Fq j)) (decide (i < 0)) (i.natAbs % j.natAbs * 2 ^ 1070) 1 := by
  obtain ⟨⟨m, e, hx⟩, vx⟩ := Fq_fin hi
  obtain ⟨⟨k, f, hy⟩, vy⟩ := Fq_fin (k := j) (by omega)
  have hk : k ≠ 0 := by
    intro h0
    have := val_eq hy
    rw [vy, h0, Nat.zero_mul] at this
    have hz : sgn (decide (j < 0)) 0 = 0 := by unfold sgn; split <;> rfl
    rw [hz] at this
    have := Int.mul_pos hj (pI 1070)
    omega
  have he := decode_ge hx
  have hf := decode_ge hy
  have hm : fmod (Fq i) (Fq j) = ofBin (decide (i < 0)) ((m * 2 ^ (e - min e f).toNat) % (k * 2 ^ (f - min e f).toNat)) (min e f) := by
    unfold fmod
    rw [hx, hy]
    simp only
    rw [if_neg (by simpa using hk)]
    rfl
  rw [hm]
  have hR := ofBin_right (decide (i < 0)) ((m * 2 ^ (e - min e f).toNat) % (k * 2 ^ (f - min e f).toNat)) (min e f) (by omega)
  have hW : (m * 2 ^ (e - min e f).toNat) % (k * 2 ^ (f - min e f).toNat) * 2 ^ (min e f + 1074).toNat = i.natAbs % j.natAbs * 2 ^ 1070 := by
    rw [← Nat.mul_mod_mul_right, ← Nat.mul_mod_mul_right]
    have e1 : (e - min e f).toNat + (min e f + 1074).toNat = (e + 1074).toNat := by omega
    have e2 : (f - min e f).toNat + (min e f + 1074).toNat = (f + 1074).toNat := by omega
    rw [Nat.mul_assoc, ← Nat.pow_add, e1, Nat.mul_assoc, ← Nat.pow_add, e2]
    rw [← val_natAbs hx, ← val_natAbs hy, vx, vy, val_nat, val_nat]
  rw [hW] at hR
  exact hR

theorem isZero_Fq {k : Int} (hk : k.natAbs < 2 ^ 53) (h : k ≠ 0) : isZero (Fq k) = false := by
  obtain ⟨⟨m, e, hx⟩, vx⟩ := Fq_fin hk
  unfold isZero
  rw [hx]
  have hm : m ≠ 0 := by
    intro h0
    have := val_eq hx
    rw [vx, h0, Nat.zero_mul] at this
    have hz : sgn (decide (k < 0)) 0 = 0 := by unfold sgn; split <;> rfl
    rw [hz] at this
    exact Int.mul_ne_zero h (Int.ne_of_gt (pI 1070)) this
  cases m with
  | zero => exact absurd rfl hm
  | succ n => rfl

theorem lt_zero_Fq {k : Int} (hk : k.natAbs < 2 ^ 53) : lt (Fq k) (zero false) = decide (k < 0) := by
  rw [Fq_zero]
  obtain ⟨⟨m, e, hx⟩, vx⟩ := Fq_fin hk
  obtain ⟨⟨m', e', hy⟩, vy⟩ := Fq_fin (k := 0) (by decide)
  unfold lt
  rw [cmp_right hx hy, vx, vy, Int.zero_mul]
  have hp := pI 1070
  generalize (2 : Int) ^ 1070 = K at *
  by_cases h : k < 0
  · rw [Int.compare_eq_lt.mpr (Int.mul_neg_of_neg_of_pos h hp)]
    simp [h]
  · have : ¬ k * K < 0 := by
      have := Int.mul_nonneg (show 0 ≤ k by omega) (Int.le_of_lt hp)
      omega
    simp only [h, decide_false]
    cases hc : compare (k * K) 0 with
    | lt => exact absurd (Int.compare_eq_lt.mp hc) this
    | eq => rfl
    | gt => rfl

theorem signBit_Fq {k : Int} (hk : k.natAbs < 2 ^ 53) (h : 0 < k) : signBit (Fq k) = false := by
  obtain ⟨⟨m, e, hx⟩, vx⟩ := Fq_fin hk
  have hs : decide (k < 0) = false := by simp; omega
  rw [hs] at hx
  unfold signBit
  unfold decode at hx
  simp only at hx
  split at hx
  · split at hx <;> cases hx
  · split at hx
    · injection hx
    · injection hx

theorem isNaN_Fq {k : Int} (hk : k.natAbs < 2 ^ 53) : isNaN (Fq k) = false := by
  obtain ⟨⟨m, e, hx⟩, vx⟩ := Fq_fin hk
  unfold isNaN
  rw [hx]

theorem mod_Fq {i j : Int} (hi : i.natAbs < 2 ^ 52) (hj : 0 < j) (hj2 : j < 2 ^ 52) : (divmod (Fq i) (Fq j)).2 = Fq (i % j) := by
  have hR := fmod_right (i := i) (j := j) (by omega) hj (by omega)
  have hmod : (i.natAbs % j.natAbs : Nat) < j.natAbs := Nat.mod_lt _ (by omega)
  by_cases h0 : i.natAbs % j.natAbs = 0
  · rw [h0, Nat.zero_mul] at hR
    have hz : fmod (Fq i) (Fq j) = pack (decide (i < 0)) 0 := right_exact hR (by decide) (t := 0) (by decide) (by rw [V_zero])
    have hiz : isZero (fmod (Fq i) (Fq j)) = true := by
      rw [hz]; cases decide (i < 0) <;> decide +kernel
    have e0 : i % j = 0 := by
      have h1 : j ∣ i := by
        have : j.natAbs ∣ i.natAbs := Nat.dvd_of_mod_eq_zero h0
        exact Int.natAbs_dvd_natAbs.mp this
      exact Int.emod_eq_zero_of_dvd h1
    rw [e0]
    unfold divmod
    simp only [hiz, if_true]
    have : copysign (zero false) (Fq j) = Fq 0 := by
      unfold copysign
      rw [signBit_Fq (by omega) hj, ← Fq_zero]
      decide +kernel
    exact this
  · have hk : ∃ k : Int, k = (if i < 0 then -((i.natAbs % j.natAbs : Nat) : Int) else ((i.natAbs % j.natAbs : Nat) : Int)) := ⟨_, rfl⟩
    obtain ⟨k, hk⟩ := hk
    have hkn : k.natAbs = i.natAbs % j.natAbs := by rw [hk]; split <;> omega
    have hks : decide (i < 0) = decide (k < 0) := by
      apply decide_eq_decide.mpr
      rw [hk]; split <;> omega
    have hf : fmod (Fq i) (Fq j) = Fq k := right_Fq hR (by decide) hks (by rw [hkn, Nat.one_mul]) (by omega)
    have hkb : k.natAbs < 2 ^ 52 := by rw [hkn]; exact Nat.lt_trans hmod (by omega)
    have hk0' : k ≠ 0 := by intro h; rw [h] at hkn; exact h0 hkn.symm
    have hnz : isZero (Fq k) = false := isZero_Fq (by omega) hk0'
    unfold divmod
    simp only [hf, hnz, Bool.false_eq_true, if_false]
    rw [lt_zero_Fq (by omega), lt_zero_Fq (k := k) (by omega)]
    have hjs : decide (j < 0) = false := by simp; omega
    rw [hjs]
    by_cases hneg : i < 0
    · have hk0 : k < 0 := by rw [hk, if_pos hneg]; omega
      have : (false != decide (k < 0)) = true := by simp [hk0]
      rw [this]
      simp only [if_true]
      rw [add_Fq (by omega) (by omega)]
      congr 1
      rw [hk, if_pos hneg]
      have hc : ((i.natAbs % j.natAbs : Nat) : Int) = (-i) % j := by
        rw [Int.natCast_emod]; congr 1 <;> omega
      have h3 : (-i) % j ≠ 0 := by rw [← hc]; omega
      rw [hc]
      have d1 := Int.emod_add_mul_ediv (-i) j
      have d2 := Int.emod_add_mul_ediv i j
      have l1 := Int.emod_nonneg i (show j ≠ 0 by omega)
      have l2 := Int.emod_lt_of_pos i hj
      have l3 := Int.emod_nonneg (-i) (show j ≠ 0 by omega)
      have l4 := Int.emod_lt_of_pos (-i) hj
      clear hk hc hkn hmod h0 hR hf
      generalize i % j = p at *
      generalize (-i) % j = q at *
      generalize i / j = u at *
      generalize (-i) / j = v at *
      have hs2 : p + q = j * (-u - v) := by rw [Int.mul_sub, Int.mul_neg]; omega
      have hr : -u - v = 1 := by
        generalize -u - v = z at *
        rcases Int.lt_trichotomy z 1 with h | h | h
        · have : j * z ≤ 0 := Int.mul_nonpos_of_nonneg_of_nonpos (by omega) (by omega)
          omega
        · exact h
        · have : j * 2 ≤ j * z := Int.mul_le_mul_of_nonneg_left (by omega) (by omega)
          omega
      rw [hr] at hs2
      omega
    · have hk0 : ¬ k < 0 := by rw [hk, if_neg hneg]; omega
      have : (false != decide (k < 0)) = false := by simp [hk0]
      rw [this]
      simp only [Bool.false_eq_true, if_false]
      congr 1
      rw [hk, if_neg hneg, Int.natCast_emod]
      congr 1 <;> omega
end
section
open PySem PySem.W PyProof.Rows PySem.Float64 PySem.Flt

@[irreducible] def Rq (i j : Int) : UInt64 := ofFrac (decide (i < 0) != decide (j < 0)) i.natAbs j.natAbs
@[irreducible] def Dq (i j : Int) : UInt64 := div (Fq i) (Fq j)
@[irreducible] def Sq (i j p : Int) : UInt64 := add (Rq i j) (ofInt p)
@[irreducible] def Tq (i j p q : Int) : UInt64 := add (Sq i j p) (ofInt q)

theorem ceil_mul {i j : Int} (hj : 0 < j) : i ≤ -((-i) / j) * j := by
  have h := Int.emod_add_mul_ediv (-i) j
  have h2 := Int.emod_nonneg (-i) (show j ≠ 0 by omega)
  have e : -((-i) / j) * j = -(j * ((-i) / j)) := by rw [Int.neg_mul, Int.mul_comm]
  rw [e]
  generalize j * ((-i) / j) = z at *
  omega
theorem floor_mul {i j : Int} (hj : 0 < j) : i / j * j ≤ i := by
  have h := Int.emod_add_mul_ediv i j
  have h2 := Int.emod_nonneg i (show j ≠ 0 by omega)
  rw [Int.mul_comm]
  omega
theorem lt_floor_mul {i j : Int} (hj : 0 < j) : i < (i / j + 1) * j := by
  have h := Int.emod_add_mul_ediv i j
  have h2 := Int.emod_lt_of_pos i hj
  rw [Int.add_mul, Int.mul_comm, Int.one_mul]
  omega

/-- bounds of a quotient in units of 2^-22: its floor below, one unit less than the next floor above -/
theorem quot_bounds {i j : Int} (hj : 0 < j) (hj2 : j ≤ 4194304) : i / j * 4194304 * j ≤ i * 4194304 ∧ i * 4194304 ≤ ((i / j + 1) * 4194304 - 1) * j := by
  have h1 := floor_mul (i := i) hj
  have h2 := lt_floor_mul (i := i) hj
  have h3 : i + 1 ≤ (i / j + 1) * j := h2
  constructor
  · have := Int.mul_le_mul_of_nonneg_right h1 (show (0 : Int) ≤ 4194304 by decide)
    rw [Int.mul_right_comm]; exact this
  · have h4 := Int.mul_le_mul_of_nonneg_right h3 (show (0 : Int) ≤ 4194304 by decide)
    have e : ((i / j + 1) * 4194304 - 1) * j = (i / j + 1) * j * 4194304 - j := by rw [Int.sub_mul, Int.one_mul, Int.mul_right_comm]
    rw [e]
    generalize (i / j + 1) * j = z at *
    omega

theorem btw_Rq {i j : Int} (hj : 0 < j) (hj2 : j ≤ 4194304) (hi : (i / j).natAbs < 2 ^ 30) : Btw (Rq i j) (i / j * 4194304) ((i / j + 1) * 4194304 - 1) := by
  unfold Rq
  have hb := quot_bounds (i := i) hj hj2
  exact btw_quot hj (by omega) (by omega) hb.1 hb.2
theorem btw_Dq {i j : Int} (hj : 0 < j) (hj2 : j ≤ 4194304) (hi0 : i.natAbs < 2 ^ 53) (hi : (i / j).natAbs < 2 ^ 30) : Btw (Dq i j) (i / j * 4194304) ((i / j + 1) * 4194304 - 1) := by
  unfold Dq
  have hb := quot_bounds (i := i) hj hj2
  refine btw_div (btw_Fq hi0) hj (by omega) (by omega) (by omega) ?_ ?_
  · have := hb.1; omega
  · have := hb.2; omega
theorem fl_Rq {i j : Int} (hj : 0 < j) (hj2 : j ≤ 4194304) (hi : (i / j).natAbs < 2 ^ 30) : toInt floorOf (Rq i j) = i / j := floor_btw (btw_Rq hj hj2 hi) (by omega) (by omega)
theorem fl_Dq {i j : Int} (hj : 0 < j) (hj2 : j ≤ 4194304) (hi0 : i.natAbs < 2 ^ 53) (hi : (i / j).natAbs < 2 ^ 30) : toInt floorOf (Dq i j) = i / j := floor_btw (btw_Dq hj hj2 hi0 hi) (by omega) (by omega)
theorem btw_Tq {i j p q : Int} (hj : 0 < j) (hj2 : j ≤ 4194304) (hi : (i / j).natAbs < 2 ^ 28) (hp : p.natAbs < 2 ^ 28) (hq : q.natAbs < 2 ^ 28) : Btw (Tq i j p q) ((i / j + p + q) * 4194304) ((i / j + p + q + 1) * 4194304 - 1) := by
  have h1 := btw_add (btw_Rq hj hj2 (i := i) (by omega)) (n := p) (by omega) (by omega) (by omega)
  have h2 := btw_add h1 (n := q) (by omega) (by omega) (by omega)
  unfold Tq Sq
  have e1 : i / j * 4194304 + p * 4194304 + q * 4194304 = (i / j + p + q) * 4194304 := by omega
  have e2 : (i / j + 1) * 4194304 - 1 + p * 4194304 + q * 4194304 = (i / j + p + q + 1) * 4194304 - 1 := by omega
  rw [e1, e2] at h2
  exact h2
theorem fl_Tq {i j p q : Int} (hj : 0 < j) (hj2 : j ≤ 4194304) (hi : (i / j).natAbs < 2 ^ 28) (hp : p.natAbs < 2 ^ 28) (hq : q.natAbs < 2 ^ 28) : toInt floorOf (Tq i j p q) = i / j + p + q :=
  floor_btw (btw_Tq hj hj2 hi hp hq) (by omega) (by omega)
theorem tr_Rq {i j : Int} (h0 : 0 ≤ i) (hj : 0 < j) (hj2 : j ≤ 4194304) (hi : (i / j).natAbs < 2 ^ 30) : toInt truncOf (Rq i j) = i / j := by
  have := Int.ediv_nonneg h0 (Int.le_of_lt hj)
  exact trunc_btw (btw_Rq hj hj2 hi) (by omega) (by omega) (by omega)

theorem Btw.fin {x : UInt64} {a b : Int} (h : Btw x a b) : Float64.isNaN x = false ∧ Float64.isInf x = false ∧ Float64.isFinite x = true := by
  obtain ⟨⟨s, m, e, hx⟩, _⟩ := h
  unfold Float64.isNaN Float64.isInf Float64.isFinite
  rw [hx]
  exact ⟨rfl, rfl, rfl⟩

section
variable {prog : Program} {w : World} {A : Around} {E : Value → Shared → Prop} {s : Shared} {t u : Tok} {Q : Value → Shared → Prop} {x y : UInt64} {i j n p q : Int}

theorem x_floor {k : Int} (hA : A.handled = none) (hb : ∃ a b, Btw x a b) (hk : toInt floorOf x = k) (h : Q (.int k s.toks) { s with toks := s.toks + 1 }) : wpAny (model prog w) A (call (.builtin "math.floor") [.float x t]) Q E s := by
  obtain ⟨a, b, hb⟩ := hb
  have hf := hb.fin
  refine call_floor_float hA (fun h1 => ?_) (fun h1 => ?_) (fun _ => ?_)
  · rw [hf.1] at h1; cases h1
  · rw [hf.2.1] at h1; cases h1
  · rw [hk]; exact h
theorem x_trunc {k : Int} (hA : A.handled = none) (hb : ∃ a b, Btw x a b) (hk : toInt truncOf x = k) (h : Q (.int k s.toks) { s with toks := s.toks + 1 }) : wpAny (model prog w) A (call (.builtin "math.trunc") [.float x t]) Q E s := by
  obtain ⟨a, b, hb⟩ := hb
  have hf := hb.fin
  refine call_trunc_float hA (fun h1 => ?_) (fun h1 => ?_) (fun _ => ?_)
  · rw [hf.1] at h1; cases h1
  · rw [hf.2.1] at h1; cases h1
  · rw [hk]; exact h
theorem x_int {k : Int} (hA : A.handled = none) (hb : ∃ a b, Btw x a b) (hk : toInt truncOf x = k) (h : Q (.int k s.toks) { s with toks := s.toks + 1 }) : wpAny (model prog w) A (call (.type "int") [.float x t]) Q E s := by
  obtain ⟨a, b, hb⟩ := hb
  have hf := hb.fin
  refine call_int_float3 hA (fun h1 => ?_) (fun h1 => ?_) (fun _ => ?_)
  · rw [hf.1] at h1; cases h1
  · rw [hf.2.1] at h1; cases h1
  · rw [hk]; exact h
theorem x_floor_Fq (hA : A.handled = none) (hi : i.natAbs < 2 ^ 53) (h : Q (.int (i / 16) s.toks) { s with toks := s.toks + 1 }) : wpAny (model prog w) A (call (.builtin "math.floor") [.float (Fq i) t]) Q E s :=
  x_floor hA ⟨_, _, btw_Fq hi⟩ (floor_Fq hi) h
theorem x_floor_Rq (hA : A.handled = none) (hj : 0 < j) (hj2 : j ≤ 4194304) (hi : (i / j).natAbs < 2 ^ 30) (h : Q (.int (i / j) s.toks) { s with toks := s.toks + 1 }) : wpAny (model prog w) A (call (.builtin "math.floor") [.float (Rq i j) t]) Q E s :=
  x_floor hA ⟨_, _, btw_Rq hj hj2 hi⟩ (fl_Rq hj hj2 hi) h
theorem x_floor_Dq (hA : A.handled = none) (hj : 0 < j) (hj2 : j ≤ 4194304) (hi0 : i.natAbs < 2 ^ 53) (hi : (i / j).natAbs < 2 ^ 30) (h : Q (.int (i / j) s.toks) { s with toks := s.toks + 1 }) : wpAny (model prog w) A (call (.builtin "math.floor") [.float (Dq i j) t]) Q E s :=
  x_floor hA ⟨_, _, btw_Dq hj hj2 hi0 hi⟩ (fl_Dq hj hj2 hi0 hi) h
theorem x_floor_Tq (hA : A.handled = none) (hj : 0 < j) (hj2 : j ≤ 4194304) (hi : (i / j).natAbs < 2 ^ 28) (hp : p.natAbs < 2 ^ 28) (hq : q.natAbs < 2 ^ 28) (h : Q (.int (i / j + p + q) s.toks) { s with toks := s.toks + 1 }) : wpAny (model prog w) A (call (.builtin "math.floor") [.float (Tq i j p q) t]) Q E s :=
  x_floor hA ⟨_, _, btw_Tq hj hj2 hi hp hq⟩ (fl_Tq hj hj2 hi hp hq) h
theorem x_trunc_Rq (hA : A.handled = none) (h0 : 0 ≤ i) (hj : 0 < j) (hj2 : j ≤ 4194304) (hi : (i / j).natAbs < 2 ^ 30) (h : Q (.int (i / j) s.toks) { s with toks := s.toks + 1 }) : wpAny (model prog w) A (call (.builtin "math.trunc") [.float (Rq i j) t]) Q E s :=
  x_trunc hA ⟨_, _, btw_Rq hj hj2 hi⟩ (tr_Rq h0 hj hj2 hi) h
theorem x_int_Fq (hA : A.handled = none) (hi : i.natAbs < 2 ^ 51) (hm : i % 16 = 0) (h : Q (.int (i / 16) s.toks) { s with toks := s.toks + 1 }) : wpAny (model prog w) A (call (.type "int") [.float (Fq i) t]) Q E s := by
  refine x_int hA ⟨_, _, btw_Fq (by omega)⟩ ?_ h
  have e : i = 16 * (i / 16) := by omega
  rw [e, trunc_Fq (by omega)]
  omega

theorem x_add_fi (hx : x = Fq i) (hi : i.natAbs < 2 ^ 50) (hn : n.natAbs < 2 ^ 44) (h : Q (.float (Fq (i + 16 * n)) s.toks) { s with toks := s.toks + 1 }) : wpAny (model prog w) A (binaryOp .Add (.float x t) (.int n u)) Q E s := by
  refine add_fi_fits (Nat.lt_trans hn (Nat.pow_lt_pow_right (by decide) (by decide))) ?_
  rw [hx, ofInt_Fq (by omega), add_Fq (by omega) (by omega)]; exact h
theorem x_add_if (hx : x = Fq i) (hi : i.natAbs < 2 ^ 50) (hn : n.natAbs < 2 ^ 44) (h : Q (.float (Fq (16 * n + i)) s.toks) { s with toks := s.toks + 1 }) : wpAny (model prog w) A (binaryOp .Add (.int n u) (.float x t)) Q E s := by
  refine add_if_fits (Nat.lt_trans hn (Nat.pow_lt_pow_right (by decide) (by decide))) ?_
  rw [hx, ofInt_Fq (by omega), add_Fq (by omega) (by omega)]; exact h
theorem x_sub_fi (hx : x = Fq i) (hi : i.natAbs < 2 ^ 50) (hn : n.natAbs < 2 ^ 44) (h : Q (.float (Fq (i - 16 * n)) s.toks) { s with toks := s.toks + 1 }) : wpAny (model prog w) A (binaryOp .Sub (.float x t) (.int n u)) Q E s := by
  refine sub_fi_fits (Nat.lt_trans hn (Nat.pow_lt_pow_right (by decide) (by decide))) ?_
  rw [hx, ofInt_Fq (by omega), sub_Fq (by omega) (by omega)]; exact h
theorem x_sub_if (hx : x = Fq i) (hi : i.natAbs < 2 ^ 50) (hn : n.natAbs < 2 ^ 44) (h : Q (.float (Fq (16 * n - i)) s.toks) { s with toks := s.toks + 1 }) : wpAny (model prog w) A (binaryOp .Sub (.int n u) (.float x t)) Q E s := by
  refine sub_if_fits (Nat.lt_trans hn (Nat.pow_lt_pow_right (by decide) (by decide))) ?_
  rw [hx, ofInt_Fq (by omega), sub_Fq (by omega) (by omega)]; exact h
theorem x_add_ff (hx : x = Fq i) (hy : y = Fq j) (hi : i.natAbs < 2 ^ 50) (hj : j.natAbs < 2 ^ 50) (h : Q (.float (Fq (i + j)) s.toks) { s with toks := s.toks + 1 }) : wpAny (model prog w) A (binaryOp .Add (.float x t) (.float y u)) Q E s := by
  refine add_float ?_
  rw [hx, hy, add_Fq (by omega) (by omega)]; exact h
theorem x_sub_ff (hx : x = Fq i) (hy : y = Fq j) (hi : i.natAbs < 2 ^ 50) (hj : j.natAbs < 2 ^ 50) (h : Q (.float (Fq (i - j)) s.toks) { s with toks := s.toks + 1 }) : wpAny (model prog w) A (binaryOp .Sub (.float x t) (.float y u)) Q E s := by
  refine sub_float ?_
  rw [hx, hy, sub_Fq (by omega) (by omega)]; exact h
theorem x_iadd_ff (hx : x = Fq i) (hy : y = Fq j) (hi : i.natAbs < 2 ^ 50) (hj : j.natAbs < 2 ^ 50) (h : Q (.float (Fq (i + j)) s.toks) { s with toks := s.toks + 1 }) : wpAny (model prog w) A (inplaceOp .Add (.float x t) (.float y u)) Q E s := by
  refine iadd_float ?_
  rw [hx, hy, add_Fq (by omega) (by omega)]; exact h
theorem not_over (hn : n.natAbs < 2 ^ 44) : ¬ Over n := by
  intro h
  have h1 := inf_of_over h
  have h2 := (btw_Fq (k := 16 * n) (by omega)).fin
  rw [ofInt_Fq (by omega), h2.2.1] at h1
  cases h1
theorem x_iadd_fi (hA : A.handled = none) (hx : x = Fq i) (hi : i.natAbs < 2 ^ 50) (hn : n.natAbs < 2 ^ 44) (h : Q (.float (Fq (i + 16 * n)) s.toks) { s with toks := s.toks + 1 }) : wpAny (model prog w) A (inplaceOp .Add (.float x t) (.int n u)) Q E s := by
  refine iadd_fi hA (fun h1 => absurd h1 (not_over hn)) (fun _ => ?_)
  rw [hx, ofInt_Fq (by omega), add_Fq (by omega) (by omega)]; exact h
theorem x_isub_fi (hA : A.handled = none) (hx : x = Fq i) (hi : i.natAbs < 2 ^ 50) (hn : n.natAbs < 2 ^ 44) (h : Q (.float (Fq (i - 16 * n)) s.toks) { s with toks := s.toks + 1 }) : wpAny (model prog w) A (inplaceOp .Sub (.float x t) (.int n u)) Q E s := by
  refine isub_fi hA (fun h1 => absurd h1 (not_over hn)) (fun _ => ?_)
  rw [hx, ofInt_Fq (by omega), sub_Fq (by omega) (by omega)]; exact h
theorem mul_comm_f (x y : UInt64) {a b : Bool} {m k : Nat} {e f : Int} (hx : decode x = .fin a m e) (hy : decode y = .fin b k f) : mul x y = mul y x := by
  unfold mul
  rw [hx, hy]
  simp only
  have h1 : (a != b) = (b != a) := by cases a <;> cases b <;> rfl
  rw [h1, Nat.mul_comm, Int.add_comm]
theorem x_mul_fi (hx : x = Fq i) (hi : i.natAbs < 2 ^ 40) (hn0 : 0 < n) (hn : n < 2 ^ 8) (h : Q (.float (Fq (i * n)) s.toks) { s with toks := s.toks + 1 }) : wpAny (model prog w) A (binaryOp .Mult (.float x t) (.int n u)) Q E s := by
  refine mul_fi_fits (Nat.lt_trans (show n.natAbs < 2 ^ 44 by omega) (Nat.pow_lt_pow_right (by decide) (by decide))) ?_
  obtain ⟨⟨m, e, h1⟩, _⟩ := Fq_fin (k := i) (by omega)
  obtain ⟨⟨m', e', h2⟩, _⟩ := Fq_fin (k := 16 * n) (by omega)
  have hb : (i * n).natAbs < 2 ^ 53 := by
    rw [Int.natAbs_mul]
    have : i.natAbs * n.natAbs ≤ 2 ^ 40 * 2 ^ 8 := Nat.mul_le_mul (by omega) (by omega)
    omega
  rw [hx, ofInt_Fq (by omega), mul_comm_f _ _ h1 h2, mul_Fq (by omega) (by omega) hb (by omega) (show 16 * n * i = 16 * (i * n) by rw [Int.mul_assoc, Int.mul_comm n])]
  exact h
theorem x_mul_fi2 (hx : x = Fq i) (hi0 : 0 < i) (hi : i < 2 ^ 16) (hn : n.natAbs < 2 ^ 32) (h : Q (.float (Fq (i * n)) s.toks) { s with toks := s.toks + 1 }) : wpAny (model prog w) A (binaryOp .Mult (.float x t) (.int n u)) Q E s := by
  refine mul_fi_fits (Nat.lt_trans (show n.natAbs < 2 ^ 44 by omega) (Nat.pow_lt_pow_right (by decide) (by decide))) ?_
  have hb : (i * n).natAbs < 2 ^ 53 := by
    rw [Int.natAbs_mul]
    have : i.natAbs * n.natAbs ≤ 2 ^ 16 * 2 ^ 32 := Nat.mul_le_mul (by omega) (by omega)
    omega
  rw [hx, ofInt_Fq (by omega), mul_Fq (by omega) (by omega) hb hi0 (show i * (16 * n) = 16 * (i * n) by rw [Int.mul_left_comm])]
  exact h
theorem x_div_fi (hA : A.handled = none) (hx : x = Fq i) (hn0 : 0 < n) (hn : n < 2 ^ 44) (h : Q (.float (Dq i (16 * n)) s.toks) { s with toks := s.toks + 1 }) : wpAny (model prog w) A (binaryOp .Div (.float x t) (.int n u)) Q E s := by
  refine truediv_fi hA (fun h1 => absurd h1 (not_over (by omega))) (fun h1 => absurd h1 (by omega)) (fun _ _ => ?_)
  rw [hx, ofInt_Fq (by omega)]
  unfold Dq at h
  exact h
theorem x_mod_fi (hA : A.handled = none) (hx : x = Fq i) (hi : i.natAbs < 2 ^ 50) (hn0 : 0 < n) (hn : n < 2 ^ 44) (h : Q (.float (Fq (i % (16 * n))) s.toks) { s with toks := s.toks + 1 }) : wpAny (model prog w) A (binaryOp .Mod (.float x t) (.int n u)) Q E s := by
  refine mod_fi hA (fun h1 => absurd h1 (not_over (by omega))) (fun h1 => absurd h1 (by omega)) (fun _ _ => ?_)
  rw [hx, ofInt_Fq (by omega), mod_Fq (by omega) (by omega) (by omega)]
  exact h
theorem x_div_ii (hA : A.handled = none) (hi : i.natAbs < 2 ^ 53) (hj : j ≠ 0) (h : Q (.float (Rq i j) s.toks) { s with toks := s.toks + 1 }) : wpAny (model prog w) A (binaryOp .Div (.int i t) (.int j u)) Q E s := by
  refine div_ii_fits hA (Nat.lt_trans hi (Nat.pow_lt_pow_right (by decide) (by decide))) (fun h1 => absurd h1 hj) (fun _ _ => ?_)
  unfold Rq at h
  exact h
theorem x_add_Rq (hn : n.natAbs < 2 ^ 44) (h : Q (.float (Sq i j n) s.toks) { s with toks := s.toks + 1 }) : wpAny (model prog w) A (binaryOp .Add (.float (Rq i j) t) (.int n u)) Q E s := by
  refine add_fi_fits (Nat.lt_trans hn (Nat.pow_lt_pow_right (by decide) (by decide))) ?_
  unfold Sq at h
  exact h
theorem x_add_Sq (hn : n.natAbs < 2 ^ 44) (h : Q (.float (Tq i j p n) s.toks) { s with toks := s.toks + 1 }) : wpAny (model prog w) A (binaryOp .Add (.float (Sq i j p) t) (.int n u)) Q E s := by
  refine add_fi_fits (Nat.lt_trans hn (Nat.pow_lt_pow_right (by decide) (by decide))) ?_
  unfold Tq at h
  exact h
theorem x_lt_fi (hx : x = Fq i) (hi : i.natAbs < 2 ^ 50) (h : Q (.bool (decide (i < 16 * n))) s) : wpAny (model prog w) A (compareOp .Lt (.float x t) (.int n u)) Q E s := by
  refine lt_fi ?_
  rw [hx, cmpInt_Fq (by omega)]
  exact h
end
theorem lit_eg : (4700144277945057280 : UInt64) = Fq 27542808 := by unfold Fq; decide +kernel
theorem lit_ec : (4700589253736792064 : UInt64) = Fq 29200472 := by unfold Fq; decide +kernel
theorem lit_half : (4602678819172646912 : UInt64) = Fq 8 := by unfold Fq; decide +kernel
theorem lit_year : (4645133162144333824 : UInt64) = Fq 5844 := by unfold Fq; decide +kernel
theorem lit_1524 : (4654419637352529920 : UInt64) = Fq 24392 := by unfold Fq; decide +kernel

def l122 : UInt64 := 4638292440600962662
def l306 : UInt64 := 4629306380116972641
def l30 : UInt64 := 4629306351969474970
@[irreducible] def Cq (b : Int) : UInt64 := sub (ofInt b) l122
@[irreducible] def Yq (b : Int) : UInt64 := div (Cq b) (Fq 5844)
@[irreducible] def Eq30 (n : Int) : UInt64 := div (ofInt n) l306
@[irreducible] def Mq (n : Int) : UInt64 := mul l306 (ofInt n)
@[irreducible] def Oq (n : Int) : UInt64 := mul l30 (ofInt n)

theorem btw_122 : Btw l122 512124518 512124519 := by
  have hd : decode l122 = .fin false 8592023664092774 (-46) := by
    unfold l122
    kernel_rfl
  have hv : val l122 = 8592023664092774 * 2 ^ 1028 := by
    rw [val_eq hd, show ((-46 : Int) + 1074).toNat = 1028 from by decide, sgn_mul, Int.natCast_pow]
    congr 1
  refine ⟨⟨_, _, _, hd⟩, ?_, ?_⟩ <;>
  · rw [hv, show (2 : Int) ^ 1052 = 2 ^ 1028 * 16777216 by rw [show (1052 : Nat) = 1028 + 24 from rfl, Int.pow_add]; rfl]
    have hp := pI 1028
    generalize (2 : Int) ^ 1028 = K at *
    omega

theorem btw_Cq {b : Int} (hb : b.natAbs < 2 ^ 30) : Btw (Cq b) (b * 4194304 - 512124519) (b * 4194304 - 512124518) := by
  unfold Cq
  rw [ofInt_Fq (by omega)]
  exact btw_sub2 (btw_Fq (by omega)) btw_122 (by omega) (by omega) (by omega) (by omega)

theorem btw_Yq {b : Int} (hb : b.natAbs < 2 ^ 30) : Btw (Yq b) ((16 * b - 1954) / 5844 * 4194304) (((16 * b - 1954) / 5844 + 1) * 4194304 - 1) := by
  unfold Yq
  exact btw_div (btw_Cq hb) (by decide) (by decide) (by omega) (by omega) (by omega) (by omega)

theorem fl_Yq {b : Int} (hb : b.natAbs < 2 ^ 30) : toInt floorOf (Yq b) = (16 * b - 1954) / 5844 := floor_btw (btw_Yq hb) (by omega) (by omega)

def tabE (n : Nat) : Bool := Float64.isFinite (div (ofInt n) l306) && decide (toInt floorOf (div (ofInt n) l306) = ((n * 10000 / 306001 : Nat) : Int))
def tabM (n : Nat) : Bool := Float64.isFinite (mul l306 (ofInt n)) && decide (toInt floorOf (mul l306 (ofInt n)) = ((n * 306001 / 10000 : Nat) : Int))
def tabO (n : Nat) : Bool := Float64.isFinite (mul l30 (ofInt n)) && decide (toInt truncOf (mul l30 (ofInt n)) = ((n * 306 / 10 : Nat) : Int))
theorem tabE_all : ∀ n, n < 512 → tabE n = true := by decide +kernel
theorem tabM_all : ∀ n, n < 32 → tabM n = true := by decide +kernel
theorem tabO_all : ∀ n, n < 32 → tabO n = true := by decide +kernel
theorem fl_Eq30 {n : Int} (h0 : 0 ≤ n) (h1 : n < 512) : Float64.isFinite (Eq30 n) = true ∧ toInt floorOf (Eq30 n) = n * 10000 / 306001 := by
  have h := tabE_all n.toNat (by omega)
  unfold tabE at h
  have e : ((n.toNat : Nat) : Int) = n := by omega
  rw [Bool.and_eq_true, decide_eq_true_eq, e] at h
  unfold Eq30
  exact ⟨h.1, by rw [h.2]; omega⟩
theorem fl_Mq {n : Int} (h0 : 0 ≤ n) (h1 : n < 32) : Float64.isFinite (Mq n) = true ∧ toInt floorOf (Mq n) = n * 306001 / 10000 := by
  have h := tabM_all n.toNat (by omega)
  unfold tabM at h
  have e : ((n.toNat : Nat) : Int) = n := by omega
  rw [Bool.and_eq_true, decide_eq_true_eq, e] at h
  unfold Mq
  exact ⟨h.1, by rw [h.2]; omega⟩
theorem tr_Oq {n : Int} (h0 : 0 ≤ n) (h1 : n < 32) : Float64.isFinite (Oq n) = true ∧ toInt truncOf (Oq n) = n * 306 / 10 := by
  have h := tabO_all n.toNat (by omega)
  unfold tabO at h
  have e : ((n.toNat : Nat) : Int) = n := by omega
  rw [Bool.and_eq_true, decide_eq_true_eq, e] at h
  unfold Oq
  exact ⟨h.1, by rw [h.2]; omega⟩

section
variable {prog : Program} {w : World} {A : Around} {E : Value → Shared → Prop} {s : Shared} {t u : Tok} {Q : Value → Shared → Prop} {x y : UInt64} {i j n p q : Int}
theorem fin_not (h : Float64.isFinite x = true) : Float64.isNaN x = false ∧ Float64.isInf x = false := by
  unfold Float64.isFinite at h
  unfold Float64.isNaN Float64.isInf
  cases hd : decode x <;> simp_all
theorem x_floorF {k : Int} (hA : A.handled = none) (hb : Float64.isFinite x = true) (hk : toInt floorOf x = k) (h : Q (.int k s.toks) { s with toks := s.toks + 1 }) : wpAny (model prog w) A (call (.builtin "math.floor") [.float x t]) Q E s := by
  have hf := fin_not hb
  refine call_floor_float hA (fun h1 => ?_) (fun h1 => ?_) (fun _ => ?_)
  · rw [hf.1] at h1; cases h1
  · rw [hf.2] at h1; cases h1
  · rw [hk]; exact h
theorem x_truncF {k : Int} (hA : A.handled = none) (hb : Float64.isFinite x = true) (hk : toInt truncOf x = k) (h : Q (.int k s.toks) { s with toks := s.toks + 1 }) : wpAny (model prog w) A (call (.builtin "math.trunc") [.float x t]) Q E s := by
  have hf := fin_not hb
  refine call_trunc_float hA (fun h1 => ?_) (fun h1 => ?_) (fun _ => ?_)
  · rw [hf.1] at h1; cases h1
  · rw [hf.2] at h1; cases h1
  · rw [hk]; exact h
theorem x_floor_Yq (hA : A.handled = none) (hn : n.natAbs < 2 ^ 30) (h : Q (.int ((16 * n - 1954) / 5844) s.toks) { s with toks := s.toks + 1 }) : wpAny (model prog w) A (call (.builtin "math.floor") [.float (Yq n) t]) Q E s :=
  x_floor hA ⟨_, _, btw_Yq hn⟩ (fl_Yq hn) h
theorem x_floor_Eq30 (hA : A.handled = none) (h0 : 0 ≤ n) (h1 : n < 512) (h : Q (.int (n * 10000 / 306001) s.toks) { s with toks := s.toks + 1 }) : wpAny (model prog w) A (call (.builtin "math.floor") [.float (Eq30 n) t]) Q E s :=
  x_floorF hA (fl_Eq30 h0 h1).1 (fl_Eq30 h0 h1).2 h
theorem x_floor_Mq (hA : A.handled = none) (h0 : 0 ≤ n) (h1 : n < 32) (h : Q (.int (n * 306001 / 10000) s.toks) { s with toks := s.toks + 1 }) : wpAny (model prog w) A (call (.builtin "math.floor") [.float (Mq n) t]) Q E s :=
  x_floorF hA (fl_Mq h0 h1).1 (fl_Mq h0 h1).2 h
theorem x_trunc_Oq (hA : A.handled = none) (h0 : 0 ≤ n) (h1 : n < 32) (h : Q (.int (n * 306 / 10) s.toks) { s with toks := s.toks + 1 }) : wpAny (model prog w) A (call (.builtin "math.trunc") [.float (Oq n) t]) Q E s :=
  x_truncF hA (tr_Oq h0 h1).1 (tr_Oq h0 h1).2 h
theorem x_sub_122 (hn : n.natAbs < 2 ^ 44) (h : Q (.float (Cq n) s.toks) { s with toks := s.toks + 1 }) : wpAny (model prog w) A (binaryOp .Sub (.int n u) (.float 4638292440600962662 t)) Q E s := by
  refine sub_if_fits (Nat.lt_trans hn (Nat.pow_lt_pow_right (by decide) (by decide))) ?_
  unfold Cq l122 at h
  exact h
theorem x_div_365 (hA : A.handled = none) (h : Q (.float (Yq n) s.toks) { s with toks := s.toks + 1 }) : wpAny (model prog w) A (binaryOp .Div (.float (Cq n) t) (.float 4645133162144333824 u)) Q E s := by
  refine truediv_float_or hA (fun h1 => ?_) (fun _ => ?_)
  · rw [lit_year, isZero_Fq (by decide) (by decide)] at h1; cases h1
  · unfold Yq at h
    rw [← lit_year] at h
    exact h
theorem x_div_306 (hA : A.handled = none) (hn : n.natAbs < 2 ^ 44) (h : Q (.float (Eq30 n) s.toks) { s with toks := s.toks + 1 }) : wpAny (model prog w) A (binaryOp .Div (.int n u) (.float 4629306380116972641 t)) Q E s := by
  refine truediv_if hA (fun h1 => absurd h1 (not_over hn)) (fun _ h1 => absurd h1 (by decide +kernel)) (fun _ _ => ?_)
  unfold Eq30 l306 at h
  exact h
theorem x_mul_306 (hn : n.natAbs < 2 ^ 44) (h : Q (.float (Mq n) s.toks) { s with toks := s.toks + 1 }) : wpAny (model prog w) A (binaryOp .Mult (.float 4629306380116972641 t) (.int n u)) Q E s := by
  refine mul_fi_fits (Nat.lt_trans hn (Nat.pow_lt_pow_right (by decide) (by decide))) ?_
  unfold Mq l306 at h
  exact h
theorem x_mul_30 (hn : n.natAbs < 2 ^ 44) (h : Q (.float (Oq n) s.toks) { s with toks := s.toks + 1 }) : wpAny (model prog w) A (binaryOp .Mult (.float 4629306351969474970 t) (.int n u)) Q E s := by
  refine mul_fi_fits (Nat.lt_trans hn (Nat.pow_lt_pow_right (by decide) (by decide))) ?_
  unfold Oq l30 at h
  exact h
end
end
section
@[irreducible] def leapB (y : Int) : Bool := decide (y % 4 = 0) && (!decide (y % 100 = 0) || decide (y % 400 = 0))
theorem leapB_iff (y : Int) : leapB y = true ↔ (y % 4 = 0 ∧ (¬ y % 100 = 0 ∨ y % 400 = 0)) := by unfold leapB; simp

def glen (y m : Int) : Int := if m = 2 then (if leapB y = true then 29 else 28) else if m = 4 ∨ m = 6 ∨ m = 9 ∨ m = 11 then 30 else 31

/-- the day number of a Gregorian date: its Julian day is this and a half -/
@[irreducible] def gj (y m d : Int) : Int := 1721424 + 365 * (y - 1) + (y - 1) / 4 - (y - 1) / 100 + (y - 1) / 400 + (367 * m - 362) / 12 + (if m ≤ 2 then 0 else if leapB y = true then -1 else -2) + d
theorem gj_lo {y m d : Int} (h : m ≤ 2) : gj y m d = 1721424 + 365 * (y - 1) + (y - 1) / 4 - (y - 1) / 100 + (y - 1) / 400 + (367 * m - 362) / 12 + d := by
  unfold gj; rw [if_pos h]; omega
theorem gj_hi {y m d : Int} (h : ¬ m ≤ 2) (hL : leapB y = true) : gj y m d = 1721424 + 365 * (y - 1) + (y - 1) / 4 - (y - 1) / 100 + (y - 1) / 400 + (367 * m - 362) / 12 - 1 + d := by
  unfold gj; rw [if_neg h, if_pos hL]; omega
theorem gj_hi' {y m d : Int} (h : ¬ m ≤ 2) (hL : leapB y = false) : gj y m d = 1721424 + 365 * (y - 1) + (y - 1) / 4 - (y - 1) / 100 + (y - 1) / 400 + (367 * m - 362) / 12 - 2 + d := by
  unfold gj; rw [if_neg h, if_neg (by simp [hL])]; omega
end
section
theorem year_split (Y : Int) : ∃ Q C K J : Int, Y - 1 = 400 * Q + 100 * C + 4 * K + J ∧ 0 ≤ C ∧ C ≤ 3 ∧ 0 ≤ K ∧ K ≤ 24 ∧ 0 ≤ J ∧ J ≤ 3 ∧
    gj Y 1 1 = 1721425 + 146097 * Q + 36524 * C + 1461 * K + 365 * J ∧ (leapB Y = true ↔ (J = 3 ∧ (K = 24 → C = 3))) := by
  refine ⟨(Y - 1) / 400, (Y - 1) % 400 / 100, (Y - 1) % 400 % 100 / 4, (Y - 1) % 4, by omega, by omega, by omega, by omega, by omega, by omega, by omega, ?_, ?_⟩
  · rw [gj_lo (by decide)]; omega
  · rw [leapB_iff]; omega

theorem gj_add (Y M D : Int) : gj Y M D = gj Y M 1 + D - 1 := by unfold gj; omega
theorem gj_month (Y M : Int) : gj Y M 1 = gj Y 1 1 + (367 * M - 362) / 12 + (if M ≤ 2 then 0 else if leapB Y = true then -1 else -2) := by
  rw [gj_lo (y := Y) (m := 1) (by decide)]
  unfold gj; omega

theorem greg_data {Y M D : Int} (hM1 : 1 ≤ M) (hM2 : M ≤ 12) (hD1 : 1 ≤ D) (hD2 : D ≤ glen Y M) :
    ∃ yd : Int, gj Y M D = gj Y 1 1 + yd ∧ 0 ≤ yd ∧ yd ≤ 365 ∧ (yd = 365 → leapB Y = true) ∧ gj Y M 1 = gj Y M D - D + 1 ∧
      (leapB Y = true → (yd < 59 → M = (yd * 12 + 373) / 367) ∧ (¬ yd < 59 → M = ((yd + 1) * 12 + 373) / 367)) ∧
      (leapB Y = false → (yd < 58 → M = (yd * 12 + 373) / 367) ∧ (¬ yd < 58 → M = ((yd + 2) * 12 + 373) / 367)) := by
  have cases : M = 1 ∨ M = 2 ∨ M = 3 ∨ M = 4 ∨ M = 5 ∨ M = 6 ∨ M = 7 ∨ M = 8 ∨ M = 9 ∨ M = 10 ∨ M = 11 ∨ M = 12 := by omega
  refine ⟨gj Y M D - gj Y 1 1, by omega, ?_⟩
  have e1 := gj_add Y M D
  have e2 := gj_month Y M
  unfold glen at hD2
  clear hM1 hM2
  generalize gj Y M D = a at *
  generalize gj Y M 1 = b at *
  generalize gj Y 1 1 = c at *
  cases hL : leapB Y <;> rcases cases with rfl | rfl | rfl | rfl | rfl | rfl | rfl | rfl | rfl | rfl | rfl | rfl <;> simp [hL] at hD2 e2 <;>
    simp only [Bool.false_eq_true, false_implies, true_implies, and_true, true_and, imp_false, implies_true, reduceCtorEq] <;> omega
theorem glen_le (Y M : Int) : glen Y M ≤ 31 := by unfold glen; split <;> (try split) <;> omega

/-- a bool and the int that it is -/
def LBm (b : Bool) (lb : Int) : Prop := (if b = true then (1 : Int) else 0) = lb
theorem LBm.t {b : Bool} {lb : Int} (h : LBm b lb) (hb : b = true) : lb = 1 := by unfold LBm at h; rw [if_pos hb] at h; exact h.symm
theorem LBm.f {b : Bool} {lb : Int} (h : LBm b lb) (hb : ¬ b = true) : lb = 0 := by unfold LBm at h; rw [if_neg hb] at h; exact h.symm

theorem greg_div {Y M D : Int} (hM1 : 1 ≤ M) (hM2 : M ≤ 12) (hD1 : 1 ≤ D) (hD2 : D ≤ glen Y M) :
    ∃ Q c k j r1 r2 r3 r4 yd lb : Int, LBm (leapB Y) lb ∧ 0 ≤ lb ∧ lb ≤ 1 ∧ gj Y M D = 1721425 + 146097 * Q + r1 ∧ 0 ≤ r1 ∧ r1 < 146097 ∧ r1 = 36524 * c + r2 ∧ 0 ≤ r2 ∧ r2 < 36524 ∧
      r2 = 1461 * k + r3 ∧ 0 ≤ r3 ∧ r3 < 1461 ∧ r3 = 365 * j + r4 ∧ 0 ≤ r4 ∧ r4 < 365 ∧ 0 ≤ c ∧ c ≤ 4 ∧ 0 ≤ k ∧ k ≤ 24 ∧ 0 ≤ j ∧ j ≤ 4 ∧
      (c = 4 ∨ j = 4 → Y = 400 * Q + 100 * c + 4 * k + j) ∧ (¬ (c = 4 ∨ j = 4) → Y = 400 * Q + 100 * c + 4 * k + j + 1) ∧
      gj Y M D = gj Y 1 1 + yd ∧ 0 ≤ yd ∧ yd ≤ 365 ∧ gj Y M 1 = gj Y M D - D + 1 ∧
      (yd < 58 + lb → M = (yd * 12 + 373) / 367) ∧ (¬ yd < 58 + lb → M = ((yd + 2 - lb) * 12 + 373) / 367) := by
  obtain ⟨Q, C, K, J, hY, hC0, hC3, hK0, hK24, hJ0, hJ3, hg, hLeap⟩ := year_split Y
  obtain ⟨yd, hn, hyd0, hyd, hyL, hgm, hmT, hmF⟩ := greg_data hM1 hM2 hD1 hD2
  have hlb : ∃ lb : Int, LBm (leapB Y) lb ∧ 0 ≤ lb ∧ lb ≤ 1 ∧ (yd < 58 + lb → M = (yd * 12 + 373) / 367) ∧ (¬ yd < 58 + lb → M = ((yd + 2 - lb) * 12 + 373) / 367) := by
    cases hL : leapB Y
    · have := hmF hL
      exact ⟨0, rfl, by decide, by decide, by omega, by omega⟩
    · have := hmT hL
      exact ⟨1, rfl, by decide, by decide, by omega, by omega⟩
  obtain ⟨lb, b1, b2, b3, b4, b5⟩ := hlb
  rcases Int.lt_or_le yd 365 with h | h
  · exact ⟨Q, C, K, J, 36524 * C + 1461 * K + 365 * J + yd, 1461 * K + 365 * J + yd, 365 * J + yd, yd, yd, lb, b1, b2, b3, by omega, by omega, by omega, by omega, by omega, by omega, by omega, by omega, by omega, by omega, by omega, by omega, by omega, by omega, by omega, by omega, by omega, by omega, by omega, by omega, hn, hyd0, hyd, hgm, b4, b5⟩
  · have hL := hLeap.mp (hyL (by omega))
    rcases Int.lt_or_le K 24 with h2 | h2
    · exact ⟨Q, C, K, 4, 36524 * C + 1461 * K + 1460, 1461 * K + 1460, 1460, 0, yd, lb, b1, b2, b3, by omega, by omega, by omega, by omega, by omega, by omega, by omega, by omega, by omega, by omega, by omega, by omega, by omega, by omega, by omega, by omega, by omega, by omega, by omega, by omega, hn, hyd0, hyd, hgm, b4, b5⟩
    · exact ⟨Q, 4, 0, 0, 146096, 0, 0, 0, yd, lb, b1, b2, b3, by omega, by omega, by omega, by omega, by omega, by omega, by omega, by omega, by omega, by omega, by omega, by omega, by omega, by omega, by omega, by omega, by omega, by omega, by omega, by omega, hn, hyd0, hyd, hgm, b4, b5⟩

/-- the year that a walk speaks of -/
def GYr (_ : Int) : Prop := True
theorem GYr.mk (Y : Int) : GYr Y := trivial
theorem glen_cases {y m d : Int} (h : d ≤ glen y m) : (m = 2 ∧ leapB y = true ∧ d ≤ 29) ∨ (m = 2 ∧ leapB y = false ∧ d ≤ 28) ∨ (¬ m = 2 ∧ ([4, 6, 9, 11] : List Int).any (· == m) = true ∧ d ≤ 30) ∨ (¬ m = 2 ∧ ([4, 6, 9, 11] : List Int).any (· == m) = false ∧ d ≤ 31) := by
  unfold glen at h
  by_cases h2 : m = 2
  · rw [if_pos h2] at h
    cases hL : leapB y <;> simp [hL] at h
    · exact .inr (.inl ⟨h2, rfl, h⟩)
    · exact .inl ⟨h2, rfl, h⟩
  · rw [if_neg h2] at h
    by_cases h3 : m = 4 ∨ m = 6 ∨ m = 9 ∨ m = 11
    · rw [if_pos h3] at h
      refine .inr (.inr (.inl ⟨h2, ?_, h⟩))
      simp; omega
    · rw [if_neg h3] at h
      refine .inr (.inr (.inr ⟨h2, ?_, h⟩))
      simp; omega
/-- a date of the Gregorian calendar -/
def GDt (Y M D : Int) : Prop := Y.natAbs < 2 ^ 24 ∧ 1 ≤ M ∧ M ≤ 12 ∧ 1 ≤ D ∧ D ≤ glen Y M

theorem gj_march {G lb : Int} (h : LBm (leapB G) lb) : gj G 3 (22 - lb) = gj G 1 1 + 80 := by
  rw [gj_add, gj_month]
  cases hL : leapB G
  · have := h.f (by simp [hL]); subst this; simp; omega
  · have := h.t hL; subst this; simp; omega
theorem glen_march (G : Int) : glen G 3 = 31 := by unfold glen; simp
theorem LBm.le {b : Bool} {lb : Int} (h : LBm b lb) : 0 ≤ lb ∧ lb ≤ 1 := by unfold LBm at h; subst h; split <;> decide
end
section
/-- the day number of a Coptic date -/
@[irreducible] def cj (y m d : Int) : Int := 1825028 + d + (m - 1) * 30 + (y - 1) * 365 + y / 4
theorem cj_def (y m d : Int) : cj y m d = 1825028 + d + (m - 1) * 30 + (y - 1) * 365 + y / 4 := by unfold cj; rfl
def CDt (y m d : Int) : Prop := y.natAbs < 2 ^ 23 ∧ 1 ≤ m ∧ m ≤ 13 ∧ 1 ≤ d ∧ d ≤ 30 ∧ (m = 13 → d ≤ 6) ∧ (m = 13 → d = 6 → y % 4 = 3)

def jlen (y m : Int) : Int := if m = 2 then (if y % 4 = 0 then 29 else 28) else if m = 4 ∨ m = 6 ∨ m = 9 ∨ m = 11 then 30 else 31
/-- the day number of a Julian date, from its year counted from March -/
@[irreducible] def jj (y m d : Int) : Int := if m ≤ 2 then 5844 * (y - 1 + 4716) / 16 + (m + 12 + 1) * 306001 / 10000 + d - 1525 else 5844 * (y + 4716) / 16 + (m + 1) * 306001 / 10000 + d - 1525
theorem jj_lo {y m d : Int} (h : m ≤ 2) : jj y m d = 5844 * (y - 1 + 4716) / 16 + (m + 12 + 1) * 306001 / 10000 + d - 1525 := by unfold jj; rw [if_pos h]
theorem jj_hi {y m d : Int} (h : ¬ m ≤ 2) : jj y m d = 5844 * (y + 4716) / 16 + (m + 1) * 306001 / 10000 + d - 1525 := by unfold jj; rw [if_neg h]
def JDt (y m d : Int) : Prop := y.natAbs < 2 ^ 20 ∧ 1 ≤ m ∧ m ≤ 12 ∧ 1 ≤ d ∧ d ≤ jlen y m

theorem jlen_cases (y m : Int) : (m = 2 ∧ y % 4 = 0 ∧ jlen y m = 29) ∨ (m = 2 ∧ ¬ y % 4 = 0 ∧ jlen y m = 28) ∨ (¬ m = 2 ∧ ([4, 6, 9, 11] : List Int).any (· == m) = true ∧ jlen y m = 30) ∨ (¬ m = 2 ∧ ([4, 6, 9, 11] : List Int).any (· == m) = false ∧ jlen y m = 31) := by
  unfold jlen
  by_cases h2 : m = 2
  · rw [if_pos h2]
    by_cases h : y % 4 = 0
    · rw [if_pos h]; exact .inl ⟨h2, h, rfl⟩
    · rw [if_neg h]; exact .inr (.inl ⟨h2, h, rfl⟩)
  · rw [if_neg h2]
    by_cases h3 : m = 4 ∨ m = 6 ∨ m = 9 ∨ m = 11
    · rw [if_pos h3]
      refine .inr (.inr (.inl ⟨h2, ?_, rfl⟩))
      simp; omega
    · rw [if_neg h3]
      refine .inr (.inr (.inr ⟨h2, ?_, rfl⟩))
      simp; omega

theorem cop_data {y m d : Int} (h : CDt y m d) : ∃ u : Int, cj y m d = cj y 1 1 + u ∧ 0 ≤ u ∧ u ≤ 365 ∧ (4 * (cj y m d - 1825029) + 1463) / 1461 = y ∧ u / 30 + 1 = m ∧ u - (m - 1) * 30 + 1 = d ∧ cj y 1 1 = 1825029 + (y - 1) * 365 + y / 4 := by
  obtain ⟨h0, h1, h2, h3, h4, h5, h6⟩ := h
  rw [cj_def, cj_def]
  exact ⟨(m - 1) * 30 + d - 1, by omega, by omega, by omega, by omega, by omega, by omega, by omega⟩

/-- a Julian date by the march of its years: C the year from March, 4716 on; E the month, one on -/
theorem jul_data {y m d : Int} (h : JDt y m d) : ∃ C E : Int, jj y m d + 1525 = 5844 * C / 16 + E * 306001 / 10000 + d ∧ (16 * (jj y m d + 1525) - 1954) / 5844 = C ∧
    (jj y m d + 1525 - 5844 * C / 16) * 10000 / 306001 = E ∧ 4 ≤ E ∧ E ≤ 15 ∧ 0 ≤ jj y m d + 1525 - 5844 * C / 16 ∧ jj y m d + 1525 - 5844 * C / 16 < 512 ∧
    (E < 14 → m = E - 1) ∧ (¬ E < 14 → m = E - 13) ∧ (2 < m → y = C - 4716) ∧ (¬ 2 < m → y = C - 4715) := by
  obtain ⟨h0, h1, h2, h3, h4⟩ := h
  unfold jlen at h4
  have cases : m = 1 ∨ m = 2 ∨ m = 3 ∨ m = 4 ∨ m = 5 ∨ m = 6 ∨ m = 7 ∨ m = 8 ∨ m = 9 ∨ m = 10 ∨ m = 11 ∨ m = 12 := by omega
  by_cases hm : m ≤ 2
  · rw [jj_lo hm]
    rcases cases with rfl | rfl | rfl | rfl | rfl | rfl | rfl | rfl | rfl | rfl | rfl | rfl
    · simp at h4
      exact ⟨y - 1 + 4716, 14, by omega, by omega, by omega, by omega, by omega, by omega, by omega, by omega, by omega, by omega, by omega⟩
    · simp at h4
      have h5 : (y % 4 = 0 ∧ d ≤ 29) ∨ (¬ y % 4 = 0 ∧ d ≤ 28) := by
        by_cases h : y % 4 = 0
        · rw [if_pos h] at h4; exact .inl ⟨h, h4⟩
        · rw [if_neg h] at h4; exact .inr ⟨h, h4⟩
      clear h4
      exact ⟨y - 1 + 4716, 15, by omega, by omega, by omega, by omega, by omega, by omega, by omega, by omega, by omega, by omega, by omega⟩
    all_goals omega
  · rw [jj_hi hm]
    have h5 : d ≤ 31 ∧ (m = 4 ∨ m = 6 ∨ m = 9 ∨ m = 11 → d ≤ 30) := by
      rw [if_neg (by omega)] at h4
      split at h4 <;> omega
    clear h4
    refine ⟨y + 4716, m + 1, by omega, ?_⟩
    rcases cases with rfl | rfl | rfl | rfl | rfl | rfl | rfl | rfl | rfl | rfl | rfl | rfl
    all_goals first
      | omega
      | exact ⟨by omega, by omega, by omega, by omega, by omega, by omega, by omega, by omega, by omega, by omega⟩
end
section
theorem ord_data {Y M D yd lb : Int} (gd : GDt Y M D) (hlb : LBm (leapB Y) lb) (h : gj Y M D = gj Y 1 1 + yd) :
    0 ≤ yd ∧ yd < 365 + lb ∧ (M ≤ 2 → yd + 1 = (M + 1 + 12) * 306 / 10 + D - 122 + 59 + lb - 365 - lb) ∧ (¬ M ≤ 2 → yd + 1 = (M + 1) * 306 / 10 + D - 122 + 59 + lb) ∧ gj Y M 1 = gj Y 1 1 + (yd - D + 1) ∧
      (yd < 58 + lb → M = (yd * 12 + 373) / 367) ∧ (¬ yd < 58 + lb → M = ((yd + 2 - lb) * 12 + 373) / 367) := by
  obtain ⟨_, hM1, hM2, hD1, hD2⟩ := gd
  have cases : M = 1 ∨ M = 2 ∨ M = 3 ∨ M = 4 ∨ M = 5 ∨ M = 6 ∨ M = 7 ∨ M = 8 ∨ M = 9 ∨ M = 10 ∨ M = 11 ∨ M = 12 := by omega
  have e1 := gj_add Y M D
  have e2 := gj_month Y M
  unfold glen at hD2
  clear hM1 hM2
  generalize gj Y M D = a at *
  generalize gj Y M 1 = b at *
  generalize gj Y 1 1 = c at *
  cases hL : leapB Y
  · have hl := hlb.f (by simp [hL])
    rcases cases with rfl | rfl | rfl | rfl | rfl | rfl | rfl | rfl | rfl | rfl | rfl | rfl <;> simp [hL] at hD2 e2 <;> omega
  · have hl := hlb.t hL
    rcases cases with rfl | rfl | rfl | rfl | rfl | rfl | rfl | rfl | rfl | rfl | rfl | rfl <;> simp [hL] at hD2 e2 <;> omega
theorem GDt.first {Y M D : Int} (gd : GDt Y M D) : GDt Y M 1 := ⟨gd.1, gd.2.1, gd.2.2.1, by decide, by have := gd.2.1; unfold glen; split <;> (try split) <;> omega⟩
/-- the length of a month of either neighbour, lb told -/
def mlen (m lb : Int) : Int := if m = 2 then 28 + lb else if m = 4 then 30 else if m = 6 then 30 else if m = 9 then 30 else if m = 11 then 30 else 31
theorem mlen_g {y m lb : Int} (h : LBm (leapB y) lb) : mlen m lb = glen y m := by
  unfold mlen glen
  cases hL : leapB y
  · have := h.f (by simp [hL]); subst this; simp; omega
  · have := h.t hL; subst this; simp; omega
theorem mlen_j {y m lb : Int} (h : LBm (y % 4 == 0) lb) : mlen m lb = jlen y m := by
  unfold mlen jlen
  by_cases hL : y % 4 = 0
  · have := h.t (by simp [hL]); subst this; simp [hL]; omega
  · have := h.f (by simp [hL]); subst this; simp [hL]; omega
theorem LBm.ex (b : Bool) : ∃ lb : Int, LBm b lb ∧ 0 ≤ lb ∧ lb ≤ 1 := ⟨_, rfl, by split <;> decide, by split <;> decide⟩
theorem months {m : Int} (h0 : 1 ≤ m) (h1 : m ≤ 12) : m = 1 ∨ m = 2 ∨ m = 3 ∨ m = 4 ∨ m = 5 ∨ m = 6 ∨ m = 7 ∨ m = 8 ∨ m = 9 ∨ m = 10 ∨ m = 11 ∨ m = 12 := by omega
end
section
/-- where the Saka months begin, by the law's table: year, month, day of the neighbour -/
def sY (y m : Int) : Int := if m > 10 then y + 79 else y + 78
def sM (m : Int) : Int := if m = 11 then 1 else if m = 12 then 2 else if m = 13 then 3 else m + 2
def sD (m lb lb2 : Int) : Int := if m = 1 then 22 - lb else if m = 2 then 21 else if m = 3 then 22 else if m = 4 then 22 else if m = 5 then 23 else if m = 6 then 23 else if m = 7 then 23 else if m = 8 then 23 else if m = 9 then 22 else if m = 10 then 22 else if m = 11 then 21 else if m = 12 then 20 else 22 - lb2
/-- where the Coptic months begin -/
def cY (y m : Int) : Int := if m > 5 then y + 284 else y + 283
def cM (m : Int) : Int := if m = 6 then 1 else if m = 7 then 2 else if m = 8 then 3 else if m = 9 then 4 else if m = 10 then 5 else if m = 11 then 6 else if m = 12 then 7 else if m = 13 then 8 else if m = 14 then 8 else m + 7
def cD (m la la2 : Int) : Int := if m = 1 then 29 + la else if m = 2 then 28 + la else if m = 3 then 28 + la else if m = 4 then 27 + la else if m = 5 then 27 + la else if m = 6 then 26 + la else if m = 7 then 25 + la else if m = 8 then 27 else if m = 9 then 26 else if m = 10 then 26 else if m = 11 then 25 else if m = 12 then 25 else if m = 13 then 24 else 29 + la2
def Spl (m : Int) : Prop := 1 ≤ m ∧ m ≤ 12
def Spl13 (m : Int) : Prop := 1 ≤ m ∧ m ≤ 13
theorem months13 {m : Int} (h0 : 1 ≤ m) (h1 : m ≤ 13) : m = 1 ∨ m = 2 ∨ m = 3 ∨ m = 4 ∨ m = 5 ∨ m = 6 ∨ m = 7 ∨ m = 8 ∨ m = 9 ∨ m = 10 ∨ m = 11 ∨ m = 12 ∨ m = 13 := by omega
end
section
def slen (m lb : Int) : Int := if m = 1 then 30 + lb else if m ≤ 6 then 31 else 30
/-- the days of the Saka year ahead of its month m -/
def spast (m lb : Int) : Int := if m = 1 then 0 else if m ≤ 7 then 30 + lb + (m - 2) * 31 else 30 + lb + 155 + (m - 7) * 30
def cumf (M l : Int) : Int := (367 * M - 362) / 12 + (if M ≤ 2 then 0 else l - 2)
theorem gj_cum {G l : Int} (h : LBm (leapB G) l) (M D : Int) : gj G M D = gj G 1 1 + (cumf M l + D - 1) := by
  rw [gj_add, gj_month]
  unfold cumf
  cases hL : leapB G
  · have := h.f (by simp [hL]); subst this; simp; split <;> omega
  · have := h.t hL; subst this; simp; split <;> omega
theorem gj_next {G l : Int} (h : LBm (leapB G) l) : gj (G + 1) 1 1 = gj G 1 1 + 365 + l := by
  rw [gj_lo (by decide), gj_lo (by decide)]
  cases hL : leapB G
  · have := h.f (by simp [hL]); subst this
    have h2 : ¬ leapB G = true := by simp [hL]
    rw [leapB_iff] at h2
    omega
  · have := h.t hL; subst this
    rw [leapB_iff] at hL
    omega
theorem GDt.of {G M D l : Int} (h : LBm (leapB G) l) (h0 : G.natAbs < 2 ^ 24) (h1 : 1 ≤ M) (h2 : M ≤ 12) (h3 : 1 ≤ D) (h4 : D ≤ mlen M l) : GDt G M D := ⟨h0, h1, h2, h3, by rw [← mlen_g h]; exact h4⟩

/-- what from_gregorian of the Indian calendar gives for the day yd of the year G -/
def IRes (G yd lG S m d : Int) : Prop :=
  (yd < 80 → S = G - 79 ∧ m = (yd + 100) / 30 + 7 ∧ d = (yd + 100) % 30 + 1) ∧
  (80 ≤ yd → yd < 110 + lG → S = G - 78 ∧ m = 1 ∧ d = yd - 80 + 1) ∧
  (110 + lG ≤ yd → yd < 265 + lG → S = G - 78 ∧ m = (yd - 110 - lG) / 31 + 2 ∧ d = (yd - 110 - lG) % 31 + 1) ∧
  (265 + lG ≤ yd → S = G - 78 ∧ m = (yd - 265 - lG) / 30 + 7 ∧ d = (yd - 265 - lG) % 30 + 1)
/-- what the law's step of r days from (y, m, d) gives -/
def OnRes (y m d r L G M D : Int) : Prop :=
  (d + r ≤ L → G = y ∧ M = m ∧ D = d + r) ∧ (L < d + r → m < 12 → G = y ∧ M = m + 1 ∧ D = d + r - L) ∧ (L < d + r → ¬ m < 12 → G = y + 1 ∧ M = 1 ∧ D = d + r - L)

def SDue (Y m r lb G M D lG yd lY : Int) : Prop :=
  GDt G M D ∧ LBm (leapB G) lG ∧ gj G M D = gj G 1 1 + yd ∧ 0 ≤ yd ∧ yd ≤ 365 ∧ LBm (leapB (sY Y m)) lY ∧ OnRes (sY Y m) (sM m) (sD m lb 0) r (mlen (sM m) lY) G M D ∧
  gj G M D = gj (Y + 78) 1 1 + 80 + spast m lb + (r + 1) - 1 ∧ IRes G yd lG Y m (r + 1) ∧
  (81 + spast m lb + r ≤ 365 + lb → G = Y + 78 ∧ yd + 1 = 81 + spast m lb + r) ∧ (365 + lb < 81 + spast m lb + r → G = Y + 79 ∧ yd + 1 = 81 + spast m lb + r - (365 + lb))

theorem sdue_a {Y m r lb lb2 M D : Int} (hlb : LBm (leapB (Y + 78)) lb) (hY : Y.natAbs < 2 ^ 21) (hm : m ≤ 10) (h1 : 1 ≤ M) (h2 : M ≤ 12) (h3 : 1 ≤ D) (h4 : D ≤ mlen M lb)
    (hon : OnRes (Y + 78) (sM m) (sD m lb 0) r (mlen (sM m) lb) (Y + 78) M D) (hc : cumf M lb + D - 1 = 80 + spast m lb + r) (hr0 : 0 ≤ cumf M lb + D - 1) (hr : cumf M lb + D - 1 ≤ 365) (hi : IRes (Y + 78) (cumf M lb + D - 1) lb Y m (r + 1)) (hp : 81 + spast m lb + r ≤ 365 + lb) :
    SDue Y m r lb (Y + 78) M D lb (cumf M lb + D - 1) lb := by
  have e : sY Y m = Y + 78 := by unfold sY; rw [if_neg (by omega)]
  have hg := gj_cum hlb M D
  refine ⟨GDt.of hlb (by omega) h1 h2 h3 h4, hlb, hg, hr0, hr, by rw [e]; exact hlb, by rw [e]; exact hon, by omega, hi, fun _ => ⟨rfl, by omega⟩, fun h => by omega⟩

theorem sdue_b {Y m r lb lb2 lY M D : Int} (hlb : LBm (leapB (Y + 78)) lb) (hlb2 : LBm (leapB (Y + 79)) lb2) (hY : Y.natAbs < 2 ^ 21) (hlY : LBm (leapB (sY Y m)) lY) (h1 : 1 ≤ M) (h2 : M ≤ 12) (h3 : 1 ≤ D) (h4 : D ≤ mlen M lb2)
    (hon : OnRes (sY Y m) (sM m) (sD m lb 0) r (mlen (sM m) lY) (Y + 79) M D) (hc : 365 + lb + (cumf M lb2 + D - 1) = 80 + spast m lb + r) (hr0 : 0 ≤ cumf M lb2 + D - 1) (hr : cumf M lb2 + D - 1 ≤ 365) (hi : IRes (Y + 79) (cumf M lb2 + D - 1) lb2 Y m (r + 1)) (hp : 365 + lb < 81 + spast m lb + r) :
    SDue Y m r lb (Y + 79) M D lb2 (cumf M lb2 + D - 1) lY := by
  have hg := gj_cum hlb2 M D
  have hn := gj_next hlb
  rw [show Y + 78 + 1 = Y + 79 by omega] at hn
  refine ⟨GDt.of hlb2 (by omega) h1 h2 h3 h4, hlb2, hg, hr0, hr, hlY, hon, by omega, hi, fun h => by omega, fun _ => ⟨rfl, by omega⟩⟩

theorem saka_due {Y m r lb lb2 : Int} (hlb : LBm (leapB (Y + 78)) lb) (hlb2 : LBm (leapB (Y + 79)) lb2) (hY : Y.natAbs < 2 ^ 21) (hm : 1 ≤ m) (hm2 : m ≤ 12) (hr0 : 0 ≤ r) (hr : r < slen m lb) : ∃ G M D lG yd lY, SDue Y m r lb G M D lG yd lY := by
  have b1 := hlb.le
  have b2 := hlb2.le
  rcases months hm hm2 with rfl | rfl | rfl | rfl | rfl | rfl | rfl | rfl | rfl | rfl | rfl | rfl <;> simp [slen] at hr
  case inl =>
    by_cases h : 22 - lb + r ≤ 31
    · exact ⟨_, 3, 22 - lb + r, _, _, _, sdue_a (lb2 := lb2) hlb hY (by omega) (by omega) (by omega) (by omega) (by simp [mlen]; omega) (by simp [OnRes, sM, sD, mlen]; omega) (by simp [cumf, spast]; omega) (by simp [cumf]; omega) (by simp [cumf]; omega) (by simp [IRes, cumf]; omega) (by simp [spast]; omega)⟩
    · exact ⟨_, 4, 22 - lb + r - 31, _, _, _, sdue_a (lb2 := lb2) hlb hY (by omega) (by omega) (by omega) (by omega) (by simp [mlen]; omega) (by simp [OnRes, sM, sD, mlen]; omega) (by simp [cumf, spast]; omega) (by simp [cumf]; omega) (by simp [cumf]; omega) (by simp [IRes, cumf]; omega) (by simp [spast]; omega)⟩
  case inr.inl =>
    by_cases h : 21 + r ≤ 30
    · exact ⟨_, 4, 21 + r, _, _, _, sdue_a (lb2 := lb2) hlb hY (by omega) (by omega) (by omega) (by omega) (by simp [mlen]; omega) (by simp [OnRes, sM, sD, mlen]; omega) (by simp [cumf, spast]; omega) (by simp [cumf]; omega) (by simp [cumf]; omega) (by simp [IRes, cumf]; omega) (by simp [spast]; omega)⟩
    · exact ⟨_, 5, 21 + r - 30, _, _, _, sdue_a (lb2 := lb2) hlb hY (by omega) (by omega) (by omega) (by omega) (by simp [mlen]; omega) (by simp [OnRes, sM, sD, mlen]; omega) (by simp [cumf, spast]; omega) (by simp [cumf]; omega) (by simp [cumf]; omega) (by simp [IRes, cumf]; omega) (by simp [spast]; omega)⟩
  case inr.inr.inl =>
    by_cases h : 22 + r ≤ 31
    · exact ⟨_, 5, 22 + r, _, _, _, sdue_a (lb2 := lb2) hlb hY (by omega) (by omega) (by omega) (by omega) (by simp [mlen]; omega) (by simp [OnRes, sM, sD, mlen]; omega) (by simp [cumf, spast]; omega) (by simp [cumf]; omega) (by simp [cumf]; omega) (by simp [IRes, cumf]; omega) (by simp [spast]; omega)⟩
    · exact ⟨_, 6, 22 + r - 31, _, _, _, sdue_a (lb2 := lb2) hlb hY (by omega) (by omega) (by omega) (by omega) (by simp [mlen]; omega) (by simp [OnRes, sM, sD, mlen]; omega) (by simp [cumf, spast]; omega) (by simp [cumf]; omega) (by simp [cumf]; omega) (by simp [IRes, cumf]; omega) (by simp [spast]; omega)⟩
  case inr.inr.inr.inl =>
    by_cases h : 22 + r ≤ 30
    · exact ⟨_, 6, 22 + r, _, _, _, sdue_a (lb2 := lb2) hlb hY (by omega) (by omega) (by omega) (by omega) (by simp [mlen]; omega) (by simp [OnRes, sM, sD, mlen]; omega) (by simp [cumf, spast]; omega) (by simp [cumf]; omega) (by simp [cumf]; omega) (by simp [IRes, cumf]; omega) (by simp [spast]; omega)⟩
    · exact ⟨_, 7, 22 + r - 30, _, _, _, sdue_a (lb2 := lb2) hlb hY (by omega) (by omega) (by omega) (by omega) (by simp [mlen]; omega) (by simp [OnRes, sM, sD, mlen]; omega) (by simp [cumf, spast]; omega) (by simp [cumf]; omega) (by simp [cumf]; omega) (by simp [IRes, cumf]; omega) (by simp [spast]; omega)⟩
  case inr.inr.inr.inr.inl =>
    by_cases h : 23 + r ≤ 31
    · exact ⟨_, 7, 23 + r, _, _, _, sdue_a (lb2 := lb2) hlb hY (by omega) (by omega) (by omega) (by omega) (by simp [mlen]; omega) (by simp [OnRes, sM, sD, mlen]; omega) (by simp [cumf, spast]; omega) (by simp [cumf]; omega) (by simp [cumf]; omega) (by simp [IRes, cumf]; omega) (by simp [spast]; omega)⟩
    · exact ⟨_, 8, 23 + r - 31, _, _, _, sdue_a (lb2 := lb2) hlb hY (by omega) (by omega) (by omega) (by omega) (by simp [mlen]; omega) (by simp [OnRes, sM, sD, mlen]; omega) (by simp [cumf, spast]; omega) (by simp [cumf]; omega) (by simp [cumf]; omega) (by simp [IRes, cumf]; omega) (by simp [spast]; omega)⟩
  case inr.inr.inr.inr.inr.inl =>
    by_cases h : 23 + r ≤ 31
    · exact ⟨_, 8, 23 + r, _, _, _, sdue_a (lb2 := lb2) hlb hY (by omega) (by omega) (by omega) (by omega) (by simp [mlen]; omega) (by simp [OnRes, sM, sD, mlen]; omega) (by simp [cumf, spast]; omega) (by simp [cumf]; omega) (by simp [cumf]; omega) (by simp [IRes, cumf]; omega) (by simp [spast]; omega)⟩
    · exact ⟨_, 9, 23 + r - 31, _, _, _, sdue_a (lb2 := lb2) hlb hY (by omega) (by omega) (by omega) (by omega) (by simp [mlen]; omega) (by simp [OnRes, sM, sD, mlen]; omega) (by simp [cumf, spast]; omega) (by simp [cumf]; omega) (by simp [cumf]; omega) (by simp [IRes, cumf]; omega) (by simp [spast]; omega)⟩
  case inr.inr.inr.inr.inr.inr.inl =>
    by_cases h : 23 + r ≤ 30
    · exact ⟨_, 9, 23 + r, _, _, _, sdue_a (lb2 := lb2) hlb hY (by omega) (by omega) (by omega) (by omega) (by simp [mlen]; omega) (by simp [OnRes, sM, sD, mlen]; omega) (by simp [cumf, spast]; omega) (by simp [cumf]; omega) (by simp [cumf]; omega) (by simp [IRes, cumf]; omega) (by simp [spast]; omega)⟩
    · exact ⟨_, 10, 23 + r - 30, _, _, _, sdue_a (lb2 := lb2) hlb hY (by omega) (by omega) (by omega) (by omega) (by simp [mlen]; omega) (by simp [OnRes, sM, sD, mlen]; omega) (by simp [cumf, spast]; omega) (by simp [cumf]; omega) (by simp [cumf]; omega) (by simp [IRes, cumf]; omega) (by simp [spast]; omega)⟩
  case inr.inr.inr.inr.inr.inr.inr.inl =>
    by_cases h : 23 + r ≤ 31
    · exact ⟨_, 10, 23 + r, _, _, _, sdue_a (lb2 := lb2) hlb hY (by omega) (by omega) (by omega) (by omega) (by simp [mlen]; omega) (by simp [OnRes, sM, sD, mlen]; omega) (by simp [cumf, spast]; omega) (by simp [cumf]; omega) (by simp [cumf]; omega) (by simp [IRes, cumf]; omega) (by simp [spast]; omega)⟩
    · exact ⟨_, 11, 23 + r - 31, _, _, _, sdue_a (lb2 := lb2) hlb hY (by omega) (by omega) (by omega) (by omega) (by simp [mlen]; omega) (by simp [OnRes, sM, sD, mlen]; omega) (by simp [cumf, spast]; omega) (by simp [cumf]; omega) (by simp [cumf]; omega) (by simp [IRes, cumf]; omega) (by simp [spast]; omega)⟩
  case inr.inr.inr.inr.inr.inr.inr.inr.inl =>
    by_cases h : 22 + r ≤ 30
    · exact ⟨_, 11, 22 + r, _, _, _, sdue_a (lb2 := lb2) hlb hY (by omega) (by omega) (by omega) (by omega) (by simp [mlen]; omega) (by simp [OnRes, sM, sD, mlen]; omega) (by simp [cumf, spast]; omega) (by simp [cumf]; omega) (by simp [cumf]; omega) (by simp [IRes, cumf]; omega) (by simp [spast]; omega)⟩
    · exact ⟨_, 12, 22 + r - 30, _, _, _, sdue_a (lb2 := lb2) hlb hY (by omega) (by omega) (by omega) (by omega) (by simp [mlen]; omega) (by simp [OnRes, sM, sD, mlen]; omega) (by simp [cumf, spast]; omega) (by simp [cumf]; omega) (by simp [cumf]; omega) (by simp [IRes, cumf]; omega) (by simp [spast]; omega)⟩
  case inr.inr.inr.inr.inr.inr.inr.inr.inr.inl =>
    by_cases h : 22 + r ≤ 31
    · exact ⟨_, 12, 22 + r, _, _, _, sdue_a (lb2 := lb2) hlb hY (by omega) (by omega) (by omega) (by omega) (by simp [mlen]; omega) (by simp [OnRes, sM, sD, mlen]; omega) (by simp [cumf, spast]; omega) (by simp [cumf]; omega) (by simp [cumf]; omega) (by simp [IRes, cumf]; omega) (by simp [spast]; omega)⟩
    · exact ⟨_, 1, 22 + r - 31, _, _, _, sdue_b hlb hlb2 hY (lY := lb) (by first | exact hlb | exact hlb2) (by omega) (by omega) (by omega) (by simp [mlen]; omega) (by simp [OnRes, sY, sM, sD, mlen]; omega) (by simp [cumf, spast]; omega) (by simp [cumf]; omega) (by simp [cumf]; omega) (by simp [IRes, cumf]; omega) (by simp [spast]; omega)⟩
  case inr.inr.inr.inr.inr.inr.inr.inr.inr.inr.inl =>
    by_cases h : 21 + r ≤ 31
    · exact ⟨_, 1, 21 + r, _, _, _, sdue_b hlb hlb2 hY (lY := lb2) (by first | exact hlb | exact hlb2) (by omega) (by omega) (by omega) (by simp [mlen]; omega) (by simp [OnRes, sY, sM, sD, mlen]; omega) (by simp [cumf, spast]; omega) (by simp [cumf]; omega) (by simp [cumf]; omega) (by simp [IRes, cumf]; omega) (by simp [spast]; omega)⟩
    · exact ⟨_, 2, 21 + r - 31, _, _, _, sdue_b hlb hlb2 hY (lY := lb2) (by first | exact hlb | exact hlb2) (by omega) (by omega) (by omega) (by simp [mlen]; omega) (by simp [OnRes, sY, sM, sD, mlen]; omega) (by simp [cumf, spast]; omega) (by simp [cumf]; omega) (by simp [cumf]; omega) (by simp [IRes, cumf]; omega) (by simp [spast]; omega)⟩
  case inr.inr.inr.inr.inr.inr.inr.inr.inr.inr.inr =>
    by_cases h : 20 + r ≤ (28 + lb2)
    · exact ⟨_, 2, 20 + r, _, _, _, sdue_b hlb hlb2 hY (lY := lb2) (by first | exact hlb | exact hlb2) (by omega) (by omega) (by omega) (by simp [mlen]; omega) (by simp [OnRes, sY, sM, sD, mlen]; omega) (by simp [cumf, spast]; omega) (by simp [cumf]; omega) (by simp [cumf]; omega) (by simp [IRes, cumf]; omega) (by simp [spast]; omega)⟩
    · exact ⟨_, 3, 20 + r - (28 + lb2), _, _, _, sdue_b hlb hlb2 hY (lY := lb2) (by first | exact hlb | exact hlb2) (by omega) (by omega) (by omega) (by simp [mlen]; omega) (by simp [OnRes, sY, sM, sD, mlen]; omega) (by simp [cumf, spast]; omega) (by simp [cumf]; omega) (by simp [cumf]; omega) (by simp [IRes, cumf]; omega) (by simp [spast]; omega)⟩
end
section
theorem greg_md {G l yd : Int} (h : LBm (leapB G) l) (h0 : G.natAbs < 2 ^ 24) (hy0 : 0 ≤ yd) (hy : yd < 365 + l) : ∃ M D, GDt G M D ∧ gj G M D = gj G 1 1 + yd := by
  have hb := h.le
  have hm : ∃ a : Int, (yd < 59 + l → a = 0) ∧ (¬ yd < 59 + l → a = 2 - l) := by
    by_cases c : yd < 59 + l
    · exact ⟨0, fun _ => rfl, fun x => absurd c x⟩
    · exact ⟨2 - l, fun x => absurd x c, fun _ => rfl⟩
  obtain ⟨a, ha1, ha2⟩ := hm
  have hM : ∃ M : Int, M = ((yd + a) * 12 + 373) / 367 := ⟨_, rfl⟩
  obtain ⟨M, hM⟩ := hM
  have m1 : 1 ≤ M := by omega
  have m2 : M ≤ 12 := by omega
  have key : 1 ≤ yd - cumf M l + 1 ∧ yd - cumf M l + 1 ≤ mlen M l := by
    rcases months m1 m2 with rfl | rfl | rfl | rfl | rfl | rfl | rfl | rfl | rfl | rfl | rfl | rfl <;> simp [cumf, mlen] <;> omega
  refine ⟨M, yd - cumf M l + 1, GDt.of h h0 m1 m2 key.1 key.2, ?_⟩
  rw [gj_cum h]; omega

theorem greg_ex (n : Int) (hn : n.natAbs < 2 ^ 31) : ∃ G M D, GDt G M D ∧ gj G M D = n := by
  have hq : ∃ q r1 : Int, n - 1721425 = 146097 * q + r1 ∧ 0 ≤ r1 ∧ r1 < 146097 := ⟨(n - 1721425) / 146097, (n - 1721425) % 146097, by omega, by omega, by omega⟩
  obtain ⟨q, r1, e1, a1, a2⟩ := hq
  have hc : ∃ c r2 : Int, r1 = 36524 * c + r2 ∧ 0 ≤ r2 ∧ 0 ≤ c ∧ c ≤ 3 ∧ (c < 3 → r2 < 36524) ∧ r2 ≤ 36524 := by
    by_cases h : r1 < 109572
    · exact ⟨r1 / 36524, r1 % 36524, by omega, by omega, by omega, by omega, by omega, by omega⟩
    · exact ⟨3, r1 - 109572, by omega, by omega, by omega, by omega, by omega, by omega⟩
  obtain ⟨c, r2, e2, b1, b2, b3, b4, b5⟩ := hc
  have hk : ∃ k r3 : Int, r2 = 1461 * k + r3 ∧ 0 ≤ r3 ∧ r3 < 1461 ∧ 0 ≤ k ∧ k ≤ 24 := ⟨r2 / 1461, r2 % 1461, by omega, by omega, by omega, by omega, by omega⟩
  obtain ⟨k, r3, e3, c1, c2, c3, c4⟩ := hk
  have hj : ∃ j yd : Int, r3 = 365 * j + yd ∧ 0 ≤ yd ∧ yd ≤ 365 ∧ 0 ≤ j ∧ j ≤ 3 ∧ (yd = 365 → j = 3) := by
    by_cases h : r3 < 1095
    · exact ⟨r3 / 365, r3 % 365, by omega, by omega, by omega, by omega, by omega, by omega⟩
    · exact ⟨3, r3 - 1095, by omega, by omega, by omega, by omega, by omega, by omega⟩
  obtain ⟨j, yd, e4, d1, d2, d3, d4, d5⟩ := hj
  obtain ⟨Q, C, K, J, f1, f2, f3, f4, f5, f6, f7, f8, f9⟩ := year_split (400 * q + 100 * c + 4 * k + j + 1)
  have g1 : Q = q := by omega
  have g2 : C = c := by omega
  have g3 : K = k := by omega
  have g4 : J = j := by omega
  subst g1 g2 g3 g4
  obtain ⟨l, hl, l0, l1⟩ := LBm.ex (leapB (400 * Q + 100 * C + 4 * K + J + 1))
  have hlt : yd < 365 + l := by
    by_cases h : yd = 365
    · have hL : leapB (400 * Q + 100 * C + 4 * K + J + 1) = true := f9.mpr ⟨d5 h, by omega⟩
      have := hl.t hL
      omega
    · omega
  obtain ⟨M, D, gd, hg⟩ := greg_md hl (by omega) d1 hlt
  exact ⟨_, M, D, gd, by rw [hg, f8]; omega⟩

def SLast (Y m ℓ G M D lG yd : Int) : Prop := GDt G M D ∧ LBm (leapB G) lG ∧ gj G M D = gj G 1 1 + yd ∧ 0 ≤ yd ∧ yd ≤ 365 ∧ IRes G yd lG Y m ℓ
theorem slast_of {Y m ℓ G M D l : Int} (h : LBm (leapB G) l) (h0 : G.natAbs < 2 ^ 24) (h1 : 1 ≤ M) (h2 : M ≤ 12) (h3 : 1 ≤ D) (h4 : D ≤ mlen M l) (hr0 : 0 ≤ cumf M l + D - 1) (hr : cumf M l + D - 1 ≤ 365) (hi : IRes G (cumf M l + D - 1) l Y m ℓ) : SLast Y m ℓ G M D l (cumf M l + D - 1) :=
  ⟨GDt.of h h0 h1 h2 h3 h4, h, gj_cum h M D, hr0, hr, hi⟩
theorem saka_last {Y m lb lb2 : Int} (hlb : LBm (leapB (Y + 78)) lb) (hlb2 : LBm (leapB (Y + 79)) lb2) (hY : Y.natAbs < 2 ^ 21) (hm : 1 ≤ m) (hm2 : m ≤ 12) : ∃ lG yd, SLast Y m (slen m lb) (sY Y (m + 1)) (sM (m + 1)) (sD (m + 1) lb lb2 - 1) lG yd := by
  have b1 := hlb.le
  have b2 := hlb2.le
  by_cases h10 : m ≤ 9
  · have hG : sY Y (m + 1) = Y + 78 := by unfold sY; rw [if_neg (by omega)]
    rw [hG]
    have hm3 := hm
    refine ⟨_, _, slast_of hlb (by omega) ?_ ?_ ?_ ?_ ?_ ?_ ?_⟩ <;> (rcases months hm hm2 with rfl | rfl | rfl | rfl | rfl | rfl | rfl | rfl | rfl | rfl | rfl | rfl <;> first | omega | (simp [sM, sD, mlen, cumf, IRes, slen]; done) | (simp [sM, sD, mlen, cumf, IRes, slen]; omega))
  · have hG : sY Y (m + 1) = Y + 79 := by unfold sY; rw [if_pos (by omega)]
    rw [hG]
    refine ⟨_, _, slast_of hlb2 (by omega) ?_ ?_ ?_ ?_ ?_ ?_ ?_⟩ <;> (rcases months hm hm2 with rfl | rfl | rfl | rfl | rfl | rfl | rfl | rfl | rfl | rfl | rfl | rfl <;> first | omega | (simp [sM, sD, mlen, cumf, IRes, slen]; done) | (simp [sM, sD, mlen, cumf, IRes, slen]; omega))
end
section
def clen (m l6 : Int) : Int := if m = 13 then 5 + l6 else 30
def CDue (Y m r la G M D lY : Int) : Prop :=
  JDt G M D ∧ LBm (cY Y m % 4 == 0) lY ∧ OnRes (cY Y m) (cM m) (cD m la 0) r (mlen (cM m) lY) G M D ∧ jj G M D = cj Y m (r + 1) ∧ CDt Y m (r + 1)
theorem LBm.mod {z l : Int} (h : LBm (z % 4 == 0) l) : (z % 4 = 0 → l = 1) ∧ (¬ z % 4 = 0 → l = 0) := by
  constructor
  · intro e; exact h.t (by simp [e])
  · intro e; exact h.f (by simp [e])
theorem cop_due {Y m r la l6 : Int} (hla : (Y % 4 = 0 → la = 1) ∧ (¬ Y % 4 = 0 → la = 0)) (hl6 : (Y % 4 = 3 → l6 = 1) ∧ (¬ Y % 4 = 3 → l6 = 0)) (hY : Y.natAbs < 1002000) (hm : 1 ≤ m) (hm2 : m ≤ 13) (hr0 : 0 ≤ r) (hr : r < clen m l6) : ∃ G M D lY, CDue Y m r la G M D lY := by
  obtain ⟨lY, hlY, _, _⟩ := LBm.ex (cY Y m % 4 == 0)
  rcases months13 hm hm2 with rfl | rfl | rfl | rfl | rfl | rfl | rfl | rfl | rfl | rfl | rfl | rfl | rfl <;> simp [clen] at hr
  case inl =>
    have hlY' : LBm ((Y + 283) % 4 == 0) lY := hlY
    have hl4 := hlY'.mod
    by_cases h : 29 + la + r ≤ 31
    · exact ⟨Y + 283, 8, 29 + la + r, lY, ⟨by omega, by omega, by omega, by omega, (by simp [jlen]; omega)⟩, hlY, (by simp [OnRes, cY, cM, cD, mlen]; omega), (by rw [jj_hi (by decide), cj_def]; omega), ⟨by omega, by omega, by omega, by omega, by omega, by omega, by omega⟩⟩
    · exact ⟨Y + 283, 9, 29 + la + r - 31, lY, ⟨by omega, by omega, by omega, by omega, (by simp [jlen]; omega)⟩, hlY, (by simp [OnRes, cY, cM, cD, mlen]; omega), (by rw [jj_hi (by decide), cj_def]; omega), ⟨by omega, by omega, by omega, by omega, by omega, by omega, by omega⟩⟩
  case inr.inl =>
    have hlY' : LBm ((Y + 283) % 4 == 0) lY := hlY
    have hl4 := hlY'.mod
    by_cases h : 28 + la + r ≤ 30
    · exact ⟨Y + 283, 9, 28 + la + r, lY, ⟨by omega, by omega, by omega, by omega, (by simp [jlen]; omega)⟩, hlY, (by simp [OnRes, cY, cM, cD, mlen]; omega), (by rw [jj_hi (by decide), cj_def]; omega), ⟨by omega, by omega, by omega, by omega, by omega, by omega, by omega⟩⟩
    · exact ⟨Y + 283, 10, 28 + la + r - 30, lY, ⟨by omega, by omega, by omega, by omega, (by simp [jlen]; omega)⟩, hlY, (by simp [OnRes, cY, cM, cD, mlen]; omega), (by rw [jj_hi (by decide), cj_def]; omega), ⟨by omega, by omega, by omega, by omega, by omega, by omega, by omega⟩⟩
  case inr.inr.inl =>
    have hlY' : LBm ((Y + 283) % 4 == 0) lY := hlY
    have hl4 := hlY'.mod
    by_cases h : 28 + la + r ≤ 31
    · exact ⟨Y + 283, 10, 28 + la + r, lY, ⟨by omega, by omega, by omega, by omega, (by simp [jlen]; omega)⟩, hlY, (by simp [OnRes, cY, cM, cD, mlen]; omega), (by rw [jj_hi (by decide), cj_def]; omega), ⟨by omega, by omega, by omega, by omega, by omega, by omega, by omega⟩⟩
    · exact ⟨Y + 283, 11, 28 + la + r - 31, lY, ⟨by omega, by omega, by omega, by omega, (by simp [jlen]; omega)⟩, hlY, (by simp [OnRes, cY, cM, cD, mlen]; omega), (by rw [jj_hi (by decide), cj_def]; omega), ⟨by omega, by omega, by omega, by omega, by omega, by omega, by omega⟩⟩
  case inr.inr.inr.inl =>
    have hlY' : LBm ((Y + 283) % 4 == 0) lY := hlY
    have hl4 := hlY'.mod
    by_cases h : 27 + la + r ≤ 30
    · exact ⟨Y + 283, 11, 27 + la + r, lY, ⟨by omega, by omega, by omega, by omega, (by simp [jlen]; omega)⟩, hlY, (by simp [OnRes, cY, cM, cD, mlen]; omega), (by rw [jj_hi (by decide), cj_def]; omega), ⟨by omega, by omega, by omega, by omega, by omega, by omega, by omega⟩⟩
    · exact ⟨Y + 283, 12, 27 + la + r - 30, lY, ⟨by omega, by omega, by omega, by omega, (by simp [jlen]; omega)⟩, hlY, (by simp [OnRes, cY, cM, cD, mlen]; omega), (by rw [jj_hi (by decide), cj_def]; omega), ⟨by omega, by omega, by omega, by omega, by omega, by omega, by omega⟩⟩
  case inr.inr.inr.inr.inl =>
    have hlY' : LBm ((Y + 283) % 4 == 0) lY := hlY
    have hl4 := hlY'.mod
    by_cases h : 27 + la + r ≤ 31
    · exact ⟨Y + 283, 12, 27 + la + r, lY, ⟨by omega, by omega, by omega, by omega, (by simp [jlen]; omega)⟩, hlY, (by simp [OnRes, cY, cM, cD, mlen]; omega), (by rw [jj_hi (by decide), cj_def]; omega), ⟨by omega, by omega, by omega, by omega, by omega, by omega, by omega⟩⟩
    · exact ⟨Y + 284, 1, 27 + la + r - 31, lY, ⟨by omega, by omega, by omega, by omega, (by simp [jlen]; omega)⟩, hlY, (by simp [OnRes, cY, cM, cD, mlen]; omega), (by rw [jj_lo (by decide), cj_def]; omega), ⟨by omega, by omega, by omega, by omega, by omega, by omega, by omega⟩⟩
  case inr.inr.inr.inr.inr.inl =>
    have hlY' : LBm ((Y + 284) % 4 == 0) lY := hlY
    have hl4 := hlY'.mod
    by_cases h : 26 + la + r ≤ 31
    · exact ⟨Y + 284, 1, 26 + la + r, lY, ⟨by omega, by omega, by omega, by omega, (by simp [jlen]; omega)⟩, hlY, (by simp [OnRes, cY, cM, cD, mlen]; omega), (by rw [jj_lo (by decide), cj_def]; omega), ⟨by omega, by omega, by omega, by omega, by omega, by omega, by omega⟩⟩
    · exact ⟨Y + 284, 2, 26 + la + r - 31, lY, ⟨by omega, by omega, by omega, by omega, (by rw [← mlen_j hlY']; simp [mlen]; omega)⟩, hlY, (by simp [OnRes, cY, cM, cD, mlen]; omega), (by rw [jj_lo (by decide), cj_def]; omega), ⟨by omega, by omega, by omega, by omega, by omega, by omega, by omega⟩⟩
  case inr.inr.inr.inr.inr.inr.inl =>
    have hlY' : LBm ((Y + 284) % 4 == 0) lY := hlY
    have hl4 := hlY'.mod
    by_cases h : 25 + la + r ≤ (28 + lY)
    · exact ⟨Y + 284, 2, 25 + la + r, lY, ⟨by omega, by omega, by omega, by omega, (by rw [← mlen_j hlY']; simp [mlen]; omega)⟩, hlY, (by simp [OnRes, cY, cM, cD, mlen]; omega), (by rw [jj_lo (by decide), cj_def]; omega), ⟨by omega, by omega, by omega, by omega, by omega, by omega, by omega⟩⟩
    · exact ⟨Y + 284, 3, 25 + la + r - (28 + lY), lY, ⟨by omega, by omega, by omega, by omega, (by simp [jlen]; omega)⟩, hlY, (by simp [OnRes, cY, cM, cD, mlen]; omega), (by rw [jj_hi (by decide), cj_def]; omega), ⟨by omega, by omega, by omega, by omega, by omega, by omega, by omega⟩⟩
  case inr.inr.inr.inr.inr.inr.inr.inl =>
    have hlY' : LBm ((Y + 284) % 4 == 0) lY := hlY
    have hl4 := hlY'.mod
    by_cases h : 27 + r ≤ 31
    · exact ⟨Y + 284, 3, 27 + r, lY, ⟨by omega, by omega, by omega, by omega, (by simp [jlen]; omega)⟩, hlY, (by simp [OnRes, cY, cM, cD, mlen]; omega), (by rw [jj_hi (by decide), cj_def]; omega), ⟨by omega, by omega, by omega, by omega, by omega, by omega, by omega⟩⟩
    · exact ⟨Y + 284, 4, 27 + r - 31, lY, ⟨by omega, by omega, by omega, by omega, (by simp [jlen]; omega)⟩, hlY, (by simp [OnRes, cY, cM, cD, mlen]; omega), (by rw [jj_hi (by decide), cj_def]; omega), ⟨by omega, by omega, by omega, by omega, by omega, by omega, by omega⟩⟩
  case inr.inr.inr.inr.inr.inr.inr.inr.inl =>
    have hlY' : LBm ((Y + 284) % 4 == 0) lY := hlY
    have hl4 := hlY'.mod
    by_cases h : 26 + r ≤ 30
    · exact ⟨Y + 284, 4, 26 + r, lY, ⟨by omega, by omega, by omega, by omega, (by simp [jlen]; omega)⟩, hlY, (by simp [OnRes, cY, cM, cD, mlen]; omega), (by rw [jj_hi (by decide), cj_def]; omega), ⟨by omega, by omega, by omega, by omega, by omega, by omega, by omega⟩⟩
    · exact ⟨Y + 284, 5, 26 + r - 30, lY, ⟨by omega, by omega, by omega, by omega, (by simp [jlen]; omega)⟩, hlY, (by simp [OnRes, cY, cM, cD, mlen]; omega), (by rw [jj_hi (by decide), cj_def]; omega), ⟨by omega, by omega, by omega, by omega, by omega, by omega, by omega⟩⟩
  case inr.inr.inr.inr.inr.inr.inr.inr.inr.inl =>
    have hlY' : LBm ((Y + 284) % 4 == 0) lY := hlY
    have hl4 := hlY'.mod
    by_cases h : 26 + r ≤ 31
    · exact ⟨Y + 284, 5, 26 + r, lY, ⟨by omega, by omega, by omega, by omega, (by simp [jlen]; omega)⟩, hlY, (by simp [OnRes, cY, cM, cD, mlen]; omega), (by rw [jj_hi (by decide), cj_def]; omega), ⟨by omega, by omega, by omega, by omega, by omega, by omega, by omega⟩⟩
    · exact ⟨Y + 284, 6, 26 + r - 31, lY, ⟨by omega, by omega, by omega, by omega, (by simp [jlen]; omega)⟩, hlY, (by simp [OnRes, cY, cM, cD, mlen]; omega), (by rw [jj_hi (by decide), cj_def]; omega), ⟨by omega, by omega, by omega, by omega, by omega, by omega, by omega⟩⟩
  case inr.inr.inr.inr.inr.inr.inr.inr.inr.inr.inl =>
    have hlY' : LBm ((Y + 284) % 4 == 0) lY := hlY
    have hl4 := hlY'.mod
    by_cases h : 25 + r ≤ 30
    · exact ⟨Y + 284, 6, 25 + r, lY, ⟨by omega, by omega, by omega, by omega, (by simp [jlen]; omega)⟩, hlY, (by simp [OnRes, cY, cM, cD, mlen]; omega), (by rw [jj_hi (by decide), cj_def]; omega), ⟨by omega, by omega, by omega, by omega, by omega, by omega, by omega⟩⟩
    · exact ⟨Y + 284, 7, 25 + r - 30, lY, ⟨by omega, by omega, by omega, by omega, (by simp [jlen]; omega)⟩, hlY, (by simp [OnRes, cY, cM, cD, mlen]; omega), (by rw [jj_hi (by decide), cj_def]; omega), ⟨by omega, by omega, by omega, by omega, by omega, by omega, by omega⟩⟩
  case inr.inr.inr.inr.inr.inr.inr.inr.inr.inr.inr.inl =>
    have hlY' : LBm ((Y + 284) % 4 == 0) lY := hlY
    have hl4 := hlY'.mod
    by_cases h : 25 + r ≤ 31
    · exact ⟨Y + 284, 7, 25 + r, lY, ⟨by omega, by omega, by omega, by omega, (by simp [jlen]; omega)⟩, hlY, (by simp [OnRes, cY, cM, cD, mlen]; omega), (by rw [jj_hi (by decide), cj_def]; omega), ⟨by omega, by omega, by omega, by omega, by omega, by omega, by omega⟩⟩
    · exact ⟨Y + 284, 8, 25 + r - 31, lY, ⟨by omega, by omega, by omega, by omega, (by simp [jlen]; omega)⟩, hlY, (by simp [OnRes, cY, cM, cD, mlen]; omega), (by rw [jj_hi (by decide), cj_def]; omega), ⟨by omega, by omega, by omega, by omega, by omega, by omega, by omega⟩⟩
  case inr.inr.inr.inr.inr.inr.inr.inr.inr.inr.inr.inr =>
    have hlY' : LBm ((Y + 284) % 4 == 0) lY := hlY
    have hl4 := hlY'.mod
    by_cases h : 24 + r ≤ 31
    · exact ⟨Y + 284, 8, 24 + r, lY, ⟨by omega, by omega, by omega, by omega, (by simp [jlen]; omega)⟩, hlY, (by simp [OnRes, cY, cM, cD, mlen]; omega), (by rw [jj_hi (by decide), cj_def]; omega), ⟨by omega, by omega, by omega, by omega, by omega, by omega, by omega⟩⟩
    · exact ⟨Y + 284, 9, 24 + r - 31, lY, ⟨by omega, by omega, by omega, by omega, (by simp [jlen]; omega)⟩, hlY, (by simp [OnRes, cY, cM, cD, mlen]; omega), (by rw [jj_hi (by decide), cj_def]; omega), ⟨by omega, by omega, by omega, by omega, by omega, by omega, by omega⟩⟩
def CLast (Y m ℓ G M D : Int) : Prop := JDt G M D ∧ jj G M D = cj Y m ℓ ∧ CDt Y m ℓ
theorem cop_last {Y m la la2 l6 : Int} (hla : (Y % 4 = 0 → la = 1) ∧ (¬ Y % 4 = 0 → la = 0)) (hla2 : ((Y + 1) % 4 = 0 → la2 = 1) ∧ (¬ (Y + 1) % 4 = 0 → la2 = 0)) (hl6 : (Y % 4 = 3 → l6 = 1) ∧ (¬ Y % 4 = 3 → l6 = 0)) (hY : Y.natAbs < 1002000) (hm : 1 ≤ m) (hm2 : m ≤ 13) : CLast Y m (clen m l6) (cY Y (m + 1)) (cM (m + 1)) (cD (m + 1) la la2 - 1) := by
  refine ⟨⟨?_, ?_, ?_, ?_, ?_⟩, ?_, ⟨?_, ?_, ?_, ?_, ?_, ?_, ?_⟩⟩
  case refine_1 => unfold cY; split <;> omega
  case refine_6 =>
    rcases months13 hm hm2 with rfl | rfl | rfl | rfl | rfl | rfl | rfl | rfl | rfl | rfl | rfl | rfl | rfl <;> simp [cM, cY, cD, clen, cj_def] <;> first | (rw [jj_lo (by decide)]; omega) | (rw [jj_hi (by decide)]; omega)
  case refine_5 =>
    rcases months13 hm hm2 with rfl | rfl | rfl | rfl | rfl | rfl | rfl | rfl | rfl | rfl | rfl | rfl | rfl <;> simp [cM, cY, cD, jlen] <;> (try split) <;> omega
  case refine_7 => omega
  all_goals (rcases months13 hm hm2 with rfl | rfl | rfl | rfl | rfl | rfl | rfl | rfl | rfl | rfl | rfl | rfl | rfl <;> first | omega | (simp [cM, cD, clen]; done) | (simp [cM, cD, clen]; omega))
end
end Mine
open PySem PySem.W PyProof.Rows
namespace Mine
set_option maxRecDepth 100000
set_option maxHeartbeats 8000000
abbrev RetV (R : Tok → Value) (h₀ : Heap) (L : Addr) (m : Str → Option Value) (news : List (Addr × Obj)) (s : Shared) (Q : Value → Shared → Prop) : Prop :=
  ∀ (t : Tok) (h' : Heap) (tk' : Nat), Fr h₀ L h' m → News h₀ L h' news → Q (R t) { s with heap := h', toks := tk' }
abbrev RetT3 (x y z : Int) (h₀ : Heap) (L : Addr) (m : Str → Option Value) (news : List (Addr × Obj)) (s : Shared) (Q : Value → Shared → Prop) : Prop :=
  ∀ (D : Addr) (t1 t2 t3 : Tok) (c : Nat) (h' : Heap) (tk' : Nat), Fr h₀ L h' m → News h₀ L h' ((D, ({ cls := .type "tuple", data := .seq #[.int x t1, .int y t2, .int z t3] c } : Obj)) :: news) → AllLt D news → Q (.ref D) { s with heap := h', toks := tk' }
abbrev RetT2 (x y : Int) (h₀ : Heap) (L : Addr) (m : Str → Option Value) (news : List (Addr × Obj)) (s : Shared) (Q : Value → Shared → Prop) : Prop :=
  ∀ (D : Addr) (t1 t2 : Tok) (c : Nat) (h' : Heap) (tk' : Nat), Fr h₀ L h' m → News h₀ L h' ((D, ({ cls := .type "tuple", data := .seq #[.int x t1, .int y t2] c } : Obj)) :: news) → AllLt D news → Q (.ref D) { s with heap := h', toks := tk' }
abbrev RetK := Heap → Addr → (Str → Option Value) → List (Addr × Obj) → Shared → (Value → Shared → Prop) → Prop

abbrev Cl (n : Nat) (w : World) (loose : List Str) (mean : ExcName → Option Value) (mg mb : Str → Option Value) (f : Addr) (vs : List Value) (Ret : RetK) : Prop :=
  ∀ (news : List (Addr × Obj)) (dp un : Nat) (gd : Option (List Code)) (cn : Str) (cs : Scope) (a : Addr) (ccd : Value) (cl : List (Str × Addr)) (outer : List Env) (A₀ : Around) (base h₀ : Heap) (L : Addr) (m : Str → Option Value) (s : Shared) (Q E : Value → Shared → Prop),
    Below A₀ base outer h₀ → Fr h₀ L s.heap m → (Mine.hd.heap_39 w.params).In h₀ → News h₀ L s.heap news → Top Mine.hd.view_39 loose mean mg mb h₀ → cs.kind = .function →
    dp + n < recursionLimit → un + 8 * n < cLine → Ret h₀ L m news s Q →
    wpAny (model PySem.Challenge.rw_ad5028_01.row.prog w) (ktrTop dp un gd cn cs L a ccd cl outer) (call (.ref f) vs) Q E s

theorem cl_use {n : Nat} {w : World} {loose : List Str} {mean : ExcName → Option Value} {mg mb : Str → Option Value} {f : Addr} {vs : List Value} {Ret : RetK}
    (C : Cl n w loose mean mg mb f vs Ret)
    {news : List (Addr × Obj)} {dp un : Nat} {gd : Option (List Code)} {cn : Str} {cs : Scope} {a : Addr} {ccd : Value} {cl : List (Str × Addr)} {outer : List Env} {A₀ : Around} {base h₀ : Heap} {L : Addr} {m : Str → Option Value} {s : Shared} {Q E : Value → Shared → Prop}
    (B : Below A₀ base outer h₀) (F : Fr h₀ L s.heap m) (X : (Mine.hd.heap_39 w.params).In h₀) (N : News h₀ L s.heap news) (T : Top Mine.hd.view_39 loose mean mg mb h₀) (hk : cs.kind = .function)
    (hd : dp + n < recursionLimit) (hu : un + 8 * n < cLine) (ret : Ret h₀ L m news s Q) :
    wpAny (model PySem.Challenge.rw_ad5028_01.row.prog w) (ktrTop dp un gd cn cs L a ccd cl outer) (call (.ref f) vs) Q E s :=
  C news dp un gd cn cs a ccd cl outer A₀ base h₀ L m s Q E B F X N T hk hd hu ret


theorem x_mod_ii {prog : Program} {w : World} {A : Around} {E : Value → Shared → Prop} {s : Shared} {t u : Tok} {Q : Value → Shared → Prop} {a b : Int} (hb : 0 < b) (h : Q (.int (a % b) s.toks) { s with toks := s.toks + 1 }) : wpAny (model prog w) A (binaryOp .Mod (.int a t) (.int b u)) Q E s := by
  refine mod_int' (by omega) ?_
  rw [Int.fmod_eq_emod_of_nonneg _ (by omega)]
  exact h

section
variable {h₀ h' : Heap} {L D : Addr} {m : Str → Option Value} {news news' : List (Addr × Obj)} {s : Shared} {Q : Value → Shared → Prop} {tk' : Nat} {t t1 t2 t3 : Tok}
theorem ret_bool {b b' : Bool} (hret : RetV (fun _ => .bool b) h₀ L m news s Q) (e : b' = b) (F : Fr h₀ L h' m) (N : News h₀ L h' news) : Q (.bool b') { s with heap := h', toks := tk' } := by
  subst e; exact hret 0 h' tk' F N
theorem ret_int {b b' : Int} (hret : RetV (fun t => .int b t) h₀ L m news s Q) (e : b' = b) (F : Fr h₀ L h' m) (N : News h₀ L h' news) : Q (.int b' t) { s with heap := h', toks := tk' } := by
  subst e; exact hret t h' tk' F N
theorem ret_flt {b b' : Int} (hret : RetV (fun t => .float (Fq b) t) h₀ L m news s Q) (e : b' = b) (F : Fr h₀ L h' m) (N : News h₀ L h' news) : Q (.float (Fq b') t) { s with heap := h', toks := tk' } := by
  subst e; exact hret t h' tk' F N
end
theorem x_in_tup {prog : Program} {w : World} {A : Around} {E : Value → Shared → Prop} {s : Shared} {t : Addr} {items : Array Value} {ns : List Int} {x : Int} {u : Tok} {Q : Value → Shared → Prop} {b : Bool} (ht : IsTup s.heap t items) (hi : IntsAre items.toList ns)
    (hb : ns.any (· == x) = b) (h : Q (.bool b) s) : wpAny (model prog w) A (compareOp .In (.int x u) (.ref t)) Q E s := by
  refine in_tuple_ints ht hi ?_
  rw [hb]; exact h

/-- what the next stores of a walk hold: each is shown equal as it comes, by a fact of its own -/
def Mks : List (Str × Int × Prop) → Prop
  | [] => True
  | a :: r => a.2.2 ∧ Mks r
theorem Mks.nil : Mks [] := trivial
theorem Mks.add {l : List (Str × Int × Prop)} (x : Str) (Y : Int) {P : Prop} (h : P) (m : Mks l) : Mks ((x, Y, P) :: l) := ⟨h, m⟩
theorem Mks.add0 {l : List (Str × Int × Prop)} (x : Str) (Y : Int) (m : Mks l) : Mks ((x, Y, True) :: l) := ⟨trivial, m⟩
theorem Mks.skip {a : Str × Int × Prop} {l : List (Str × Int × Prop)} (m : Mks (a :: l)) : Mks l := m.2
section
variable {M : Model} {A : Around} {E : Value → Shared → Prop} {Q : Unit → Shared → Prop} {s : Shared} {env : Env} {x : Str} {e Y : Int} {t : Tok} {r : List (Str × Int × Prop)} {P : Prop}
theorem x_markI (mk : Mks ((x, Y, P) :: r)) (h : P → e = Y) (hk : Mks r → wpAny M A (storeName env x (.int Y t)) Q E s) : wpAny M A (storeName env x (.int e t)) Q E s := by have := h mk.1; subst this; exact hk mk.2
theorem x_markF (mk : Mks ((x, Y, P) :: r)) (h : P → e = Y) (hk : Mks r → wpAny M A (storeName env x (.float (Fq Y) t)) Q E s) : wpAny M A (storeName env x (.float (Fq e) t)) Q E s := by have := h mk.1; subst this; exact hk mk.2
end
/-- branches are looked at by omega where this stands -/
def Prn : Prop := True
theorem Prn.mk : Prn := trivial
section
variable {h₀ h' : Heap} {L D : Addr} {m : Str → Option Value} {news news' : List (Addr × Obj)} {s : Shared} {Q : Value → Shared → Prop} {tk' : Nat} {t t1 t2 t3 : Tok} {c : Nat}
theorem ret_t3 {x y z : Int} (hret : RetT3 x y z h₀ L m news s Q) (F : Fr h₀ L h' m) (N : News h₀ L h' ((D, ({ cls := .type "tuple", data := .seq #[.int x t1, .int y t2, .int z t3] c } : Obj)) :: news)) (l : AllLt D news) : Q (.ref D) { s with heap := h', toks := tk' } :=
  hret D t1 t2 t3 c h' tk' F N l
theorem ret_t3E {x y z x' y' z' : Int} (hret : RetT3 x y z h₀ L m news s Q) (F : Fr h₀ L h' m) (N : News h₀ L h' ((D, ({ cls := .type "tuple", data := .seq #[.int x' t1, .int y' t2, .int z' t3] c } : Obj)) :: news)) (l : AllLt D news) (e1 : x' = x) (e2 : y' = y) (e3 : z' = z) : Q (.ref D) { s with heap := h', toks := tk' } := by
  subst e1 e2 e3; exact hret D t1 t2 t3 c h' tk' F N l
theorem ret_t3D {p : Addr × Obj} {x y z x' y' z' : Int} (hret : RetT3 x y z h₀ L m news s Q) (F : Fr h₀ L h' m) (N : News h₀ L h' ((D, ({ cls := .type "tuple", data := .seq #[.int x' t1, .int y' t2, .int z' t3] c } : Obj)) :: p :: news)) (l : @LT.lt Nat _ p.1 D ∧ AllLt D news) (e1 : x' = x) (e2 : y' = y) (e3 : z' = z) : Q (.ref D) { s with heap := h', toks := tk' } := by
  subst e1 e2 e3
  refine hret D t1 t2 t3 c h' tk' F (fun q hq => ?_) l.2
  rcases List.mem_cons.mp hq with rfl | hq
  · exact N _ List.mem_cons_self
  · exact N q (List.mem_cons_of_mem _ (List.mem_cons_of_mem _ hq))
theorem ret_t2E {x y x' y' : Int} (hret : RetT2 x y h₀ L m news s Q) (F : Fr h₀ L h' m) (N : News h₀ L h' ((D, ({ cls := .type "tuple", data := .seq #[.int x' t1, .int y' t2] c } : Obj)) :: news)) (l : AllLt D news) (e1 : x' = x) (e2 : y' = y) : Q (.ref D) { s with heap := h', toks := tk' } := by
  subst e1 e2; exact hret D t1 t2 c h' tk' F N l
theorem ret_t2 {x y : Int} (hret : RetT2 x y h₀ L m news s Q) (F : Fr h₀ L h' m) (N : News h₀ L h' ((D, ({ cls := .type "tuple", data := .seq #[.int x t1, .int y t2] c } : Obj)) :: news)) (l : AllLt D news) : Q (.ref D) { s with heap := h', toks := tk' } :=
  hret D t1 t2 c h' tk' F N l
end
section
variable {prog : Program} {w : World} {A : Around} {E : Value → Shared → Prop} {s : Shared} {t : Tok} {a : Int} {Q : Value → Shared → Prop}
theorem x_add_T (h : Q (.int (a + 1) s.toks) { s with toks := s.toks + 1 }) : wpAny (model prog w) A (binaryOp .Add (.int a t) (.bool true)) Q E s := add_int_bool h
theorem x_add_F (h : Q (.int (a + 0) s.toks) { s with toks := s.toks + 1 }) : wpAny (model prog w) A (binaryOp .Add (.int a t) (.bool false)) Q E s := add_int_bool h
theorem x_sub_T (h : Q (.int (a - 1) s.toks) { s with toks := s.toks + 1 }) : wpAny (model prog w) A (binaryOp .Sub (.int a t) (.bool true)) Q E s := IntBool.sub_int_bool h
theorem x_sub_F (h : Q (.int (a - 0) s.toks) { s with toks := s.toks + 1 }) : wpAny (model prog w) A (binaryOp .Sub (.int a t) (.bool false)) Q E s := IntBool.sub_int_bool h
end
section
variable {prog : Program} {w : World} {A : Around} {E : Value → Shared → Prop} {s : Shared} {t : Tok} {a lb : Int} {b : Bool} {Q : Value → Shared → Prop} {P P' : Prop}
theorem x_add_B (hb : LBm b lb) (h : Q (.int (a + lb) s.toks) { s with toks := s.toks + 1 }) : wpAny (model prog w) A (binaryOp .Add (.int a t) (.bool b)) Q E s := by
  unfold LBm at hb; subst hb; exact add_int_bool h
theorem x_sub_B (hb : LBm b lb) (h : Q (.int (a - lb) s.toks) { s with toks := s.toks + 1 }) : wpAny (model prog w) A (binaryOp .Sub (.int a t) (.bool b)) Q E s := by
  unfold LBm at hb; subst hb; exact IntBool.sub_int_bool h
theorem x_iteB (hb : LBm b lb) (h1 : lb = 1 → P) (h2 : lb = 0 → P') : if b = true then P else P' := by
  split
  · rename_i h; exact h1 (hb.t h)
  · rename_i h; exact h2 (hb.f h)
end
abbrev ClM (n : Nat) (w : World) (loose : List Str) (mean : ExcName → Option Value) (mg mb : Str → Option Value) (R : List (Addr × Obj) → Prop) (f : Addr) (vs : List Value) (Ret : RetK) : Prop :=
  ∀ (news : List (Addr × Obj)) (dp un : Nat) (gd : Option (List Code)) (cn : Str) (cs : Scope) (a : Addr) (ccd : Value) (cl : List (Str × Addr)) (outer : List Env) (A₀ : Around) (base h₀ : Heap) (L : Addr) (m : Str → Option Value) (s : Shared) (Q E : Value → Shared → Prop),
    R news → Below A₀ base outer h₀ → Fr h₀ L s.heap m → (Mine.hd.heap_39 w.params).In h₀ → News h₀ L s.heap news → Top Mine.hd.view_39 loose mean mg mb h₀ → cs.kind = .function →
    dp + n < recursionLimit → un + 8 * n < cLine → Ret h₀ L m news s Q →
    wpAny (model PySem.Challenge.rw_ad5028_01.row.prog w) (ktrTop dp un gd cn cs L a ccd cl outer) (call (.ref f) vs) Q E s
theorem clm_use {n : Nat} {w : World} {loose : List Str} {mean : ExcName → Option Value} {mg mb : Str → Option Value} {R : List (Addr × Obj) → Prop} {f : Addr} {vs : List Value} {Ret : RetK}
    (C : ClM n w loose mean mg mb R f vs Ret)
    {news : List (Addr × Obj)} {dp un : Nat} {gd : Option (List Code)} {cn : Str} {cs : Scope} {a : Addr} {ccd : Value} {cl : List (Str × Addr)} {outer : List Env} {A₀ : Around} {base h₀ : Heap} {L : Addr} {m : Str → Option Value} {s : Shared} {Q E : Value → Shared → Prop}
    (hR : R news) (B : Below A₀ base outer h₀) (F : Fr h₀ L s.heap m) (X : (Mine.hd.heap_39 w.params).In h₀) (N : News h₀ L s.heap news) (T : Top Mine.hd.view_39 loose mean mg mb h₀) (hk : cs.kind = .function)
    (hd : dp + n < recursionLimit) (hu : un + 8 * n < cLine) (ret : Ret h₀ L m news s Q) :
    wpAny (model PySem.Challenge.rw_ad5028_01.row.prog w) (ktrTop dp un gd cn cs L a ccd cl outer) (call (.ref f) vs) Q E s :=
  C news dp un gd cn cs a ccd cl outer A₀ base h₀ L m s Q E hR B F X N T hk hd hu ret
section
variable {prog : Program} {w : World} {A : Around} {E : Value → Shared → Prop} {s : Shared} {env : Env} {b : Bool} {c d lb : Int} {k k' : Nat} {pos pos' : Pos} {Q : Value → Shared → Prop}
theorem x_ite_const (hb : LBm b lb) (e : d = c + 1) (h : Q (.int (c + lb) s.toks) { s with toks := s.toks + 1 }) :
    if b = true then wpAny (model prog w) A (eval (.Constant (.int d) k pos) env) Q E s else wpAny (model prog w) A (eval (.Constant (.int c) k' pos') env) Q E s := by
  split
  · rename_i hb'; rw [hb.t hb'] at h; subst e; exact wpAny_Constant_int h
  · rename_i hb'; rw [hb.f hb', Int.add_zero] at h; exact wpAny_Constant_int h
theorem x_ite_constP {p : Prop} [Decidable p] (h1 : p → lb = 1) (h0 : ¬ p → lb = 0) (e : d = c + 1) (h : Q (.int (c + lb) s.toks) { s with toks := s.toks + 1 }) :
    if p then wpAny (model prog w) A (eval (.Constant (.int d) k pos) env) Q E s else wpAny (model prog w) A (eval (.Constant (.int c) k' pos') env) Q E s := by
  split
  · rename_i hb'; rw [h1 hb'] at h; subst e; exact wpAny_Constant_int h
  · rename_i hb'; rw [h0 hb', Int.add_zero] at h; exact wpAny_Constant_int h
end
/-- an item of a written list of ints at an open place -/
theorem x_item {prog : Program} {w : World} {A : Around} {E : Value → Shared → Prop} {s : Shared} {value slice : Expr} {l : Addr} {vs : List Value} {k g : Int} {u : Tok} {Q : Value → Shared → Prop}
    (hl : s.heap.IsList l vs.toArray) (h0 : 0 ≤ k) (hhi : k < 2 ^ 63) (hx : ∃ t, vs[k.toNat]? = some (.int g t)) (h : ∀ t, Q (.int g t) s)
    (hs : subscripted slice false (.ref l) (.int k u) = operate [.ref l, .int k u] (getItem (.ref l) (.int k u)) := by with_unfolding_all rfl) :
    wpAny (model prog w) A (subscriptTail value slice (.ref l) (.int k u)) Q E s := by
  obtain ⟨t, hx⟩ := hx
  exact tail_any hl.typeIs slot_list_getitem.lookup (wpAny_getItem_list hl h0 hhi (by simpa using hx) (h t)) hs
/-- the item that the next open subscript gives, and the places -/
def Itm (m : Int) (_ : Int) : Prop := 1 ≤ m ∧ m ≤ 12
def itg {m g : Int} (_ : Itm m g) : Int := g
theorem Itm.mk {m : Int} (g : Int) (h0 : 1 ≤ m) (h1 : m ≤ 12) : Itm m g := ⟨h0, h1⟩
local macro_rules | `(tactic| walk_at "binaryOp Add float int") => `(tactic| (k_here; first
  | (refine' x_add_fi ?hx ?h1 ?h2 ?_; (case hx => first | exact rfl | exact lit_eg | exact lit_ec | exact lit_half); (case h1 => omega); (case h2 => omega); (try dsimp only))
  | (refine' x_add_Rq ?h1 ?_; (case h1 => omega); (try dsimp only))
  | (refine' x_add_Sq ?h1 ?_; (case h1 => omega); (try dsimp only))))
local macro_rules | `(tactic| walk_at "binaryOp Add int float") => `(tactic| (k_here; (refine' x_add_if ?hx ?h1 ?h2 ?_; (case hx => first | exact rfl | exact lit_eg | exact lit_ec | exact lit_half); (case h1 => omega); (case h2 => omega); (try dsimp only))))
local macro_rules | `(tactic| walk_at "binaryOp Sub float int") => `(tactic| (k_here; (refine' x_sub_fi ?hx ?h1 ?h2 ?_; (case hx => first | exact rfl | exact lit_eg | exact lit_ec | exact lit_half); (case h1 => omega); (case h2 => omega); (try dsimp only))))
local macro_rules | `(tactic| walk_at "binaryOp Sub int float") => `(tactic| (k_here; first
  | (refine' x_sub_122 ?h1 ?_; (case h1 => omega); (try dsimp only))
  | (refine' x_sub_if ?hx ?h1 ?h2 ?_; (case hx => first | exact rfl | exact lit_eg | exact lit_ec | exact lit_half | exact lit_1524); (case h1 => omega); (case h2 => omega); (try dsimp only))))
local macro_rules | `(tactic| walk_at "binaryOp Sub float float") => `(tactic| (k_here; (refine' x_sub_ff ?hx ?hy ?h1 ?h2 ?_; (case hx => first | exact rfl | exact lit_eg | exact lit_ec | exact lit_half); (case hy => first | exact rfl | exact lit_eg | exact lit_ec | exact lit_half | exact lit_1524); (case h1 => omega); (case h2 => omega); (try dsimp only))))
local macro_rules | `(tactic| walk_at "binaryOp Add float float") => `(tactic| (k_here; (refine' x_add_ff ?hx ?hy ?h1 ?h2 ?_; (case hx => first | exact rfl | exact lit_eg | exact lit_ec | exact lit_half); (case hy => first | exact rfl | exact lit_eg | exact lit_ec | exact lit_half); (case h1 => omega); (case h2 => omega); (try dsimp only))))
local macro_rules | `(tactic| walk_at "inplaceOp Add float float") => `(tactic| (k_here; (refine' x_iadd_ff ?hx ?hy ?h1 ?h2 ?_; (case hx => first | exact rfl | exact lit_half); (case hy => first | exact rfl | exact lit_half); (case h1 => omega); (case h2 => omega); (try dsimp only))))
local macro_rules | `(tactic| walk_at "inplaceOp Add float int") => `(tactic| (k_here; (refine' x_iadd_fi ?hA ?hx ?h1 ?h2 ?_; (case hA => with_unfolding_all exact rfl); (case hx => exact rfl); (case h1 => omega); (case h2 => omega); (try dsimp only))))
local macro_rules | `(tactic| walk_at "inplaceOp Sub float int") => `(tactic| (k_here; (refine' x_isub_fi ?hA ?hx ?h1 ?h2 ?_; (case hA => with_unfolding_all exact rfl); (case hx => exact rfl); (case h1 => omega); (case h2 => omega); (try dsimp only))))
local macro_rules | `(tactic| walk_at "binaryOp Mult float int") => `(tactic| (k_here; first
  | (refine' x_mul_306 ?h1 ?_; (case h1 => omega); (try dsimp only))
  | (refine' x_mul_30 ?h1 ?_; (case h1 => omega); (try dsimp only))
  | (refine' x_mul_fi2 lit_year ?h0 ?h1 ?h2 ?_; (case h0 => decide); (case h1 => decide); (case h2 => omega); (try dsimp only))
  | (refine' x_mul_fi ?hx ?h1 ?h2 ?h3 ?_; (case hx => exact rfl); (case h1 => omega); (case h2 => omega); (case h3 => omega); (try dsimp only))))
local macro_rules | `(tactic| walk_at "binaryOp Div float int") => `(tactic| (k_here; (refine' x_div_fi ?hA ?hx ?h1 ?h2 ?_; (case hA => with_unfolding_all exact rfl); (case hx => exact rfl); (case h1 => omega); (case h2 => omega); (try dsimp only))))
local macro_rules | `(tactic| walk_at "binaryOp Div float float") => `(tactic| (k_here; (refine' x_div_365 ?hA ?_; (case hA => with_unfolding_all exact rfl); (try dsimp only))))
local macro_rules | `(tactic| walk_at "binaryOp Div int float") => `(tactic| (k_here; (refine' x_div_306 ?hA ?h1 ?_; (case hA => with_unfolding_all exact rfl); (case h1 => omega); (try dsimp only))))
local macro_rules | `(tactic| walk_at "binaryOp Mod float int") => `(tactic| (k_here; (refine' x_mod_fi ?hA ?hx ?h1 ?h2 ?h3 ?_; (case hA => with_unfolding_all exact rfl); (case hx => exact rfl); (case h1 => omega); (case h2 => omega); (case h3 => omega); (try dsimp only))))
local macro_rules | `(tactic| walk_at "binaryOp Div int int") => `(tactic| (k_here; (refine' x_div_ii ?hA ?h1 ?h2 ?_; (case hA => with_unfolding_all exact rfl); (case h1 => omega); (case h2 => omega); (try dsimp only))))
local macro_rules | `(tactic| walk_at "compareOp Lt float int") => `(tactic| (k_here; (refine' x_lt_fi ?hx ?h1 ?_; (case hx => exact rfl); (case h1 => omega); (try dsimp only))))
local macro_rules | `(tactic| walk_at "call builtin:math.floor") => `(tactic| (k_here; first
  | (refine' x_floor_Fq ?hA ?h1 ?_; (case hA => with_unfolding_all exact rfl); (case h1 => omega); (try dsimp only))
  | (refine' x_floor_Rq ?hA ?h1 ?h2 ?h3 ?_; (case hA => with_unfolding_all exact rfl); (case h1 => omega); (case h2 => omega); (case h3 => omega); (try dsimp only))
  | (refine' x_floor_Dq ?hA ?h1 ?h2 ?h3 ?h4 ?_; (case hA => with_unfolding_all exact rfl); (case h1 => omega); (case h2 => omega); (case h3 => omega); (case h4 => omega); (try dsimp only))
  | (refine' x_floor_Tq ?hA ?h1 ?h2 ?h3 ?h4 ?h5 ?_; (case hA => with_unfolding_all exact rfl); (case h1 => omega); (case h2 => omega); (case h3 => omega); (case h4 => omega); (case h5 => omega); (try dsimp only))
  | (refine' x_floor_Yq ?hA ?h1 ?_; (case hA => with_unfolding_all exact rfl); (case h1 => omega); (try dsimp only))
  | (refine' x_floor_Eq30 ?hA ?h1 ?h2 ?_; (case hA => with_unfolding_all exact rfl); (case h1 => omega); (case h2 => omega); (try dsimp only))
  | (refine' x_floor_Mq ?hA ?h1 ?h2 ?_; (case hA => with_unfolding_all exact rfl); (case h1 => omega); (case h2 => omega); (try dsimp only))
  | (refine' PySem.Flt.call_floor_int ?_)))
local macro_rules | `(tactic| walk_at "call builtin:math.trunc") => `(tactic| (k_here; first
  | (refine' x_trunc_Rq ?hA ?h0 ?h1 ?h2 ?h3 ?_; (case hA => with_unfolding_all exact rfl); (case h0 => omega); (case h1 => omega); (case h2 => omega); (case h3 => omega); (try dsimp only))
  | (refine' x_trunc_Oq ?hA ?h1 ?h2 ?_; (case hA => with_unfolding_all exact rfl); (case h1 => omega); (case h2 => omega); (try dsimp only))))
local macro_rules | `(tactic| walk_at "call type:int") => `(tactic| (k_here; (refine' x_int_Fq ?hA ?h1 ?h2 ?_; (case hA => with_unfolding_all exact rfl); (case h1 => omega); (case h2 => omega); (try dsimp only))))
local macro_rules | `(tactic| walk_at "binaryOp Mod int int") => `(tactic| (k_here; (refine' x_mod_ii ?hb ?_; (case hb => omega); (try dsimp only))))
local macro_rules | `(tactic| walk_at "my drop") => `(tactic| first | k_asm | (refine' cb_drop ?cbN ?cbS; (case cbN => assumption); (case cbS => kcj_all)))
local macro_rules | `(tactic| walk_at "compareOp In int ref") => `(tactic| (k_here; (with_reducible show wpAny _ _ (compareOp CmpOp.In (Value.int _ _) (Value.ref _)) _ _ _); k_dflt (refine' x_in_tup (tupK (Frag.In.keeps ?k1 (Fr.keep ?F)) ?k2) ?k3 ?kb ?_; (case k1 => k_asm); (case F => k_asm); (case k2 => k_is); (case k3 => repeat constructor); (case kb => first | with_reducible assumption | exact rfl))))
local macro_rules | `(tactic| walk_at "storeName") => `(tactic| (k_here; (with_reducible rename Mks _ => mk9); (first | with_reducible refine' x_markI mk9 ?h ?_ | with_reducible refine' x_markF mk9 ?h ?_ | with_reducible refine' x_markI mk9.skip ?h ?_ | with_reducible refine' x_markF mk9.skip ?h ?_); (case h => intro hP9; first | exact hP9 | omega); clear mk9; intro mk9))
local macro_rules | `(tactic| walk_at "ite") => `(tactic| (k_here; (with_reducible rename Prn => pr9); k_dflt (first | refine ite_neg (by simp only [beq_iff_eq, bne_iff_ne, ne_eq, decide_eq_true_eq, Bool.not_eq_true', decide_eq_false_iff_not]; omega) ?_ | refine ite_pos (by simp only [beq_iff_eq, bne_iff_ne, ne_eq, decide_eq_true_eq, Bool.not_eq_true', decide_eq_false_iff_not]; omega) ?_)))
local macro_rules | `(tactic| walk_at "binaryOp Add int bool") => `(tactic| (k_here; (first | with_reducible refine x_add_T ?_ | with_reducible refine x_add_F ?_ | with_reducible refine x_add_B (by assumption) ?_)))
local macro_rules | `(tactic| walk_at "binaryOp Sub int bool") => `(tactic| (k_here; (first | with_reducible refine x_sub_T ?_ | with_reducible refine x_sub_F ?_ | with_reducible refine x_sub_B (by assumption) ?_)))
local macro_rules | `(tactic| walk_at "ite") => `(tactic| (k_here; (with_reducible refine x_iteB (by assumption) ?_ ?_) <;> intro hl9))
local macro_rules | `(tactic| walk_at "eval Call") => `(tactic| (k_here; (with_reducible show wpAny _ _ (eval (Expr.Call (Expr.Name _ _) _ [] _) _) _ _ _); with_unfolding_all refine Call_ ?_))
local macro_rules | `(tactic| walk_at "eval Name") => `(tactic| (k_here; k_dflt (first
  | (refine' nameX_L ?F ?v ?_ ?a ?b; (case b => kernel_rfl); (case F => k_asm); (case a => first | rfl | assumption); (case v => rfl); k_whole)
  | (refine' nameX_K ?F ?X ?T ?e ?_ ?a ?b; (case b => kernel_rfl); (case F => k_asm); (case X => k_asm); (case T => k_asm); (case a => first | rfl | assumption); (case e => k_is); k_whole)
  | (refine' nameX_B ?F ?X ?T ?e ?v ?n ?_ ?a ?b; (case b => kernel_rfl); (case F => k_asm); (case X => k_asm); (case T => k_asm); (case a => first | rfl | assumption); (case e => k_is); (case v => boot_fast); (case n => decide); k_whole))))
local macro_rules | `(tactic| walk_at "subscriptTail") => `(tactic| (k_here; (fail_if_success (with_reducible show wpAny _ _ (subscriptTail (PySem.Expr.Name _ _) _ _ _) _ _ _)); k_dflt (refine kba_turn (value' := PySem.Expr.Name (PySem.Str.ofString "x") ⟨0, 0, 0, 0⟩) (fun _ => rfl) ?_)))
local macro_rules | `(tactic| walk_at "InvEndN") => `(tactic| (k_here; k_dflt kst_close))
section
theorem off1 : True := by
  w_top off
  trivial
theorem c_isleap (w : World) (loose : List Str) (mean : ExcName → Option Value) (mg mb : Str → Option Value) (y : Int) (ty : Tok) (hy : y.natAbs < 2 ^ 40) :
   Cl 1 w loose mean mg mb 50 [.int y ty] (RetV fun _ => .bool (leapB y)) := by
  dsimp only [Cl, RetV]
  k_fill
  intros
  rename_i hret
  refine wpAny_call ?_
  k_dflt cell_enter
  k_steps
  all_goals (refine' ret_bool hret ?e ?F ?N; (case F => k_asm); (case N => walk_at "my drop"); (case e => (rw [Bool.eq_iff_iff, leapB_iff]; simp only [beq_iff_eq, bne_iff_ne, ne_eq]; omega)))
theorem c_isleapB (w : World) (loose : List Str) (mean : ExcName → Option Value) (mg mb : Str → Option Value) (y : Int) (ty : Tok) (hy : y.natAbs < 2 ^ 40) {b : Bool} (hb : leapB y = b) :
   Cl 1 w loose mean mg mb 50 [.int y ty] (RetV fun _ => .bool b) := hb ▸ c_isleap w loose mean mg mb y ty hy
theorem c_isleapE (w : World) (loose : List Str) (mean : ExcName → Option Value) (mg mb : Str → Option Value) (y : Int) (ty : Tok) {Y : Int} (gy : GYr Y) (h : y = Y) (hy : y.natAbs < 2 ^ 40) :
   Cl 1 w loose mean mg mb 50 [.int y ty] (RetV fun _ => .bool (leapB Y)) := h ▸ c_isleap w loose mean mg mb y ty hy
local macro_rules | `(tactic| walk_at "my call") => `(tactic| ((case k1 => k_asm); (case k2 => k_asm); (case k3 => k_asm); (case k4 => k_asm); (case k5 => k_asm); (case kK => first | exact rfl | assumption); (case kd => ktr_room); (case ku => ktr_units)))
local macro_rules | `(tactic| walk_at "call ref") => `(tactic| (k_here; (with_reducible show wpAny _ _ (call (Value.ref 50) [Value.int _ _]) _ _ _); k_dflt ((first | refine' cl_use (c_isleapB _ _ _ _ _ _ _ ?pre (by with_reducible assumption)) ?k1 ?k2 ?k3 ?k4 ?k5 ?kK ?kd ?ku ?_ | refine' cl_use (c_isleap _ _ _ _ _ _ _ ?pre) ?k1 ?k2 ?k3 ?k4 ?k5 ?kK ?kd ?ku ?_); (case pre => omega); walk_at "my call"); intro t9 h9 tk9 F9 N9; (try dsimp only); (try k_fold)))
local macro_rules | `(tactic| walk_at "call ref") => `(tactic| (k_here; (with_reducible show wpAny _ _ (call (Value.ref 50) [Value.int _ _]) _ _ _); (with_reducible rename GYr _ => gy9); k_dflt ((refine' cl_use (c_isleapE _ _ _ _ _ _ _ gy9 ?p0 ?pre) ?k1 ?k2 ?k3 ?k4 ?k5 ?kK ?kd ?ku ?_); (case p0 => omega); (case pre => omega); walk_at "my call"); intro t9 h9 tk9 F9 N9; (try dsimp only); (try k_fold)))

theorem c_glegal (w : World) (loose : List Str) (mean : ExcName → Option Value) (mg mb : Str → Option Value) (y m d : Int) (ty tm td : Tok) (hy : y.natAbs < 2 ^ 40) (hm : 1 ≤ m) (hm2 : m ≤ 12) (hd : 1 ≤ d) (hd2 : d ≤ glen y m) :
   Cl 2 w loose mean mg mb 57 [.int y ty, .int m tm, .int d td] (RetV fun _ => .bool true) := by
  dsimp only [Cl, RetV]
  k_fill
  have cases : (m = 2 ∧ leapB y = true ∧ d ≤ 29) ∨ (m = 2 ∧ leapB y = false ∧ d ≤ 28) ∨ (¬ m = 2 ∧ ([4, 6, 9, 11] : List Int).any (· == m) = true ∧ d ≤ 30) ∨ (¬ m = 2 ∧ ([4, 6, 9, 11] : List Int).any (· == m) = false ∧ d ≤ 31) := glen_cases hd2
  clear hd2
  have pr := Prn.mk
  rcases cases with ⟨hc, hL, hd2⟩ | ⟨hc, hL, hd2⟩ | ⟨hc, hA, hd2⟩ | ⟨hc, hA, hd2⟩
  all_goals (
      intros
      rename_i hret
      refine wpAny_call ?_
      k_dflt cell_enter
      k_steps
      all_goals (refine' ret_bool hret ?e ?F ?N; (case F => k_asm); (case N => walk_at "my drop"); (case e => rfl)))
end
local macro_rules | `(tactic| walk_at "no such key") => `(tactic| fail)
local macro_rules | `(tactic| walk_at "no such key") => `(tactic| fail)
local macro_rules | `(tactic| walk_at "no such key") => `(tactic| fail)
local macro_rules | `(tactic| walk_at "no such key") => `(tactic| fail)
local macro_rules | `(tactic| walk_at "my call") => `(tactic| ((case k1 => k_asm); (case k2 => k_asm); (case k3 => k_asm); (case k4 => k_asm); (case k5 => k_asm); (case kK => first | exact rfl | assumption); (case kd => ktr_room); (case ku => ktr_units)))
local macro_rules | `(tactic| walk_at "call ref") => `(tactic| (k_here; (with_reducible show wpAny _ _ (call (Value.ref 50) [Value.int _ _]) _ _ _); k_dflt ((first | refine' cl_use (c_isleapB _ _ _ _ _ _ _ ?pre (by with_reducible assumption)) ?k1 ?k2 ?k3 ?k4 ?k5 ?kK ?kd ?ku ?_ | refine' cl_use (c_isleap _ _ _ _ _ _ _ ?pre) ?k1 ?k2 ?k3 ?k4 ?k5 ?kK ?kd ?ku ?_); (case pre => omega); walk_at "my call"); intro t9 h9 tk9 F9 N9; (try dsimp only); (try k_fold)))
local macro_rules | `(tactic| walk_at "call ref") => `(tactic| (k_here; (with_reducible show wpAny _ _ (call (Value.ref 50) [Value.int _ _]) _ _ _); (with_reducible rename GYr _ => gy9); k_dflt ((refine' cl_use (c_isleapE _ _ _ _ _ _ _ gy9 ?p0 ?pre) ?k1 ?k2 ?k3 ?k4 ?k5 ?kK ?kd ?ku ?_); (case p0 => omega); (case pre => omega); walk_at "my call"); intro t9 h9 tk9 F9 N9; (try dsimp only); (try k_fold)))
section
theorem off2 : True := by
  w_top off
  trivial
theorem glen_one {y m : Int} (h : 0 < m) : 1 ≤ glen y m := by unfold glen; split <;> (try split) <;> omega
local macro_rules | `(tactic| walk_at "call ref") => `(tactic| (k_here; (with_reducible show wpAny _ _ (call (Value.ref 57) [Value.int _ _, Value.int _ _, Value.int _ _]) _ _ _); k_dflt (refine' cl_use (c_glegal _ _ _ _ _ _ _ _ _ _ _ ?p1 ?p2 ?p3 ?p4 ?p5) ?k1 ?k2 ?k3 ?k4 ?k5 ?kK ?kd ?ku ?_; (case p1 => omega); (case p2 => omega); (case p3 => omega); (case p4 => omega); (case p5 => first | assumption | exact glen_one (by omega) | omega); walk_at "my call"); intro t9 h9 tk9 F9 N9; (try dsimp only); (try k_fold)))
theorem c_gjd (w : World) (loose : List Str) (mean : ExcName → Option Value) (mg mb : Str → Option Value) (y m d : Int) (ty tm td : Tok) (hy : y.natAbs < 2 ^ 25) (hm : 1 ≤ m) (hm2 : m ≤ 12) (hd : 1 ≤ d) (hd2 : d ≤ glen y m) :
   Cl 3 w loose mean mg mb 64 [.int y ty, .int m tm, .int d td] (RetV fun t => .float (Fq (16 * gj y m d + 8)) t) := by
  have hd3 : d ≤ 31 := by have : glen y m ≤ 31 := by (unfold glen; split <;> (try split) <;> omega)
                          omega
  dsimp only [Cl, RetV]
  k_fill
  cases hL : leapB y
  all_goals (
      intros
      rename_i hret
      refine wpAny_call ?_
      k_dflt cell_enter
      k_steps
      all_goals (refine' ret_flt hret ?e ?F ?N; (case F => k_asm); (case N => walk_at "my drop"); (case e => (first | rw [gj_lo (by assumption)] | rw [gj_hi (by assumption) hL] | rw [gj_hi' (by assumption) hL]); omega)))
theorem c_gjdE (w : World) (loose : List Str) (mean : ExcName → Option Value) (mg mb : Str → Option Value) (y m d : Int) (ty tm td : Tok) {Y : Int} (gy : GYr Y) (h : y = Y) (hy : Y.natAbs < 2 ^ 25) (hm : 1 ≤ m) (hm2 : m ≤ 12) (hd : 1 ≤ d) (hd2 : d ≤ glen Y m) :
   Cl 3 w loose mean mg mb 64 [.int y ty, .int m tm, .int d td] (RetV fun t => .float (Fq (16 * gj Y m d + 8)) t) := h ▸ c_gjd w loose mean mg mb Y m d ty tm td hy hm hm2 hd hd2
end
local macro_rules | `(tactic| walk_at "no such key") => `(tactic| fail)
local macro_rules | `(tactic| walk_at "no such key") => `(tactic| fail)
local macro_rules | `(tactic| walk_at "call ref") => `(tactic| (k_here; (with_reducible show wpAny _ _ (call (Value.ref 57) [Value.int _ _, Value.int _ _, Value.int _ _]) _ _ _); k_dflt (refine' cl_use (c_glegal _ _ _ _ _ _ _ _ _ _ _ ?p1 ?p2 ?p3 ?p4 ?p5) ?k1 ?k2 ?k3 ?k4 ?k5 ?kK ?kd ?ku ?_; (case p1 => omega); (case p2 => omega); (case p3 => omega); (case p4 => omega); (case p5 => first | assumption | exact glen_one (by omega) | omega); walk_at "my call"); intro t9 h9 tk9 F9 N9; (try dsimp only); (try k_fold)))
local macro_rules | `(tactic| walk_at "call ref") => `(tactic| (k_here; (with_reducible show wpAny _ _ (call (Value.ref 64) [Value.int _ _, Value.int _ _, Value.int _ _]) _ _ _); k_dflt (refine' cl_use (c_gjd _ _ _ _ _ _ _ _ _ _ _ ?p1 ?p2 ?p3 ?p4 ?p5) ?k1 ?k2 ?k3 ?k4 ?k5 ?kK ?kd ?ku ?_; (case p1 => omega); (case p2 => omega); (case p3 => omega); (case p4 => omega); (case p5 => first | assumption | exact glen_one (by omega) | omega); walk_at "my call"); intro t9 h9 tk9 F9 N9; (try dsimp only); (try k_fold)))
local macro_rules | `(tactic| walk_at "call ref") => `(tactic| (k_here; (with_reducible show wpAny _ _ (call (Value.ref 64) [Value.int _ _, Value.int _ _, Value.int _ _]) _ _ _); (with_reducible rename GYr _ => gy9); k_dflt (refine' cl_use (c_gjdE _ _ _ _ _ _ _ _ _ _ _ gy9 ?p0 ?p1 ?p2 ?p3 ?p4 ?p5) ?k1 ?k2 ?k3 ?k4 ?k5 ?kK ?kd ?ku ?_; (case p0 => omega); (case p1 => omega); (case p2 => omega); (case p3 => omega); (case p4 => omega); (case p5 => first | assumption | exact glen_one (by omega) | omega); walk_at "my call"); intro t9 h9 tk9 F9 N9; (try dsimp only); (try k_fold)))
section
theorem off3 : True := by
  w_top off
  trivial
theorem c_gfrom (w : World) (loose : List Str) (mean : ExcName → Option Value) (mg mb : Str → Option Value) (Y M D e : Int) (tj : Tok) (he : e = 16 * gj Y M D + 8) (hy : Y.natAbs < 2 ^ 24) (hM1 : 1 ≤ M) (hM2 : M ≤ 12) (hD1 : 1 ≤ D) (hD2 : D ≤ glen Y M) :
   Cl 4 w loose mean mg mb 71 [.float (Fq e) tj] (RetT3 Y M D) := by
  obtain ⟨Q, c, k, j, r1, r2, r3, r4, yd, lb, hlb, lb0, lb1, d1, r10, r11, d2, r20, r21, d3, r30, r31, d4, r40, r41, c0, c4, k0, k24, j0, j4, hY1, hY2, hn, hyd0, hyd1, hgm, hM3, hM4⟩ := greg_div hM1 hM2 hD1 hD2
  have hD31 : D ≤ 31 := Int.le_trans hD2 (glen_le Y M)
  subst he
  dsimp only [Cl, RetT3]
  k_fill
  have gy := GYr.mk Y
  have hQ0 : -50000 ≤ Q := by omega
  have hQ1 : Q ≤ 50000 := by omega
  have hYb : -16777216 < Y ∧ Y < 16777216 := by omega
  have hng : gj Y 1 1 = 1721425 + 146097 * Q + r1 - yd := by omega
  have mk := Mks.add0 "wjd" (16 * gj Y M D + 8) (Mks.add0 "depoch" (16 * (146097 * Q + r1)) (Mks.add0 "quadricent" Q (Mks.add0 "dqc" (16 * r1) (Mks.add "cent" c d2 (Mks.add "dcent" (16 * r2) d2 (Mks.add "quad" k d3 (Mks.add "dquad" (16 * r3) d3 (Mks.add "yindex" j d4
    (Mks.add0 "year" (400 * Q + 100 * c + 4 * k + j) (Mks.add0 "year" (400 * Q + 100 * c + 4 * k + j + 1) (Mks.add0 "yearday" (16 * yd) (Mks.add "month" M (And.intro hM3 hM4) (Mks.add0 "day" D Mks.nil)))))))))))))
  clear d2 d3 d4 hM3 hM4 hy hD2
  intros
  rename_i hret
  refine wpAny_call ?_
  k_dflt cell_enter
  k_steps
  all_goals (refine' ret_t3E hret ?F ?N ?l ?e1 ?e2 ?e3; (case F => k_asm); (case N => assumption); (case l => first | assumption | exact allLt_of (by assumption)); (case e1 => omega); (case e2 => first | rfl | omega); (case e3 => first | rfl | omega))
theorem c_gfromG (w : World) (loose : List Str) (mean : ExcName → Option Value) (mg mb : Str → Option Value) (e : Int) (tj : Tok) {Y M D : Int} (gd : GDt Y M D) (he : e = 16 * gj Y M D + 8) :
   Cl 4 w loose mean mg mb 71 [.float (Fq e) tj] (RetT3 Y M D) := c_gfrom w loose mean mg mb Y M D e tj he gd.1 gd.2.1 gd.2.2.1 gd.2.2.2.1 gd.2.2.2.2
end
local macro_rules | `(tactic| walk_at "no such key") => `(tactic| fail)
local macro_rules | `(tactic| walk_at "call ref") => `(tactic| (k_here; (with_reducible show wpAny _ _ (call (Value.ref 71) [Value.float (Fq _) _]) _ _ _); (with_reducible rename GDt _ _ _ => gd9); k_dflt (refine' cl_use (c_gfromG _ _ _ _ _ _ _ gd9 ?p1) ?k1 ?k2 ?k3 ?k4 ?k5 ?kK ?kd ?ku ?_; (case p1 => omega); walk_at "my call"); intro D9 t9 u9 v9 c9 h9 tk9 F9 N9 l9; (try simp only [AllLt, and_true] at l9); (try dsimp only); (try k_fold)))
section
theorem off4 : True := by
  w_top off
  trivial
theorem c_ijd (w : World) (loose : List Str) (mean : ExcName → Option Value) (mg mb : Str → Option Value) (Y m d n lb : Int) (ty tm td : Tok) (hlb : LBm (leapB (Y + 78)) lb) (hy : Y.natAbs < 2 ^ 23) (hm : 1 ≤ m) (hm2 : m ≤ 12) (hd : 1 ≤ d) (hd2 : d ≤ 31)
    (h1 : m = 1 → n = gj (Y + 78) 1 1 + 80 + d - 1) (h2 : 2 ≤ m → m ≤ 7 → n = gj (Y + 78) 1 1 + 80 + (30 + lb + (m - 2) * 31) + d - 1) (h3 : 8 ≤ m → n = gj (Y + 78) 1 1 + 80 + (30 + lb + 155 + (m - 7) * 30) + d - 1) :
   Cl 4 w loose mean mg mb 78 [.int Y ty, .int m tm, .int d td] (RetV fun t => .float (Fq (16 * n + 8)) t) := by
  have hb := hlb.le
  have hg := gj_march hlb
  have hg2 := glen_march (Y + 78)
  have hgb : gj (Y + 78) 1 1 < 2 ^ 40 ∧ -2 ^ 40 < gj (Y + 78) 1 1 := by rw [gj_lo (by decide)]; omega
  have hgb' : gj (Y + 78) 1 1 < 2 ^ 40 := hgb.1
  have hgb'' : -2 ^ 40 < gj (Y + 78) 1 1 := hgb.2
  clear hgb
  dsimp only [Cl, RetV]
  k_fill
  intros
  rename_i hret
  refine wpAny_call ?_
  k_dflt cell_enter
  k_steps
  all_goals (refine' ret_flt hret ?e ?F ?N; (case F => k_asm); (case N => walk_at "my drop"); (case e => omega))
theorem c_ifrom (w : World) (loose : List Str) (mean : ExcName → Option Value) (mg mb : Str → Option Value) (e S m d yd lb : Int) (tj : Tok) {G M D : Int} (gd : GDt G M D) (he : e = 16 * gj G M D + 8) (hlb : LBm (leapB G) lb)
    (hyd : gj G M D = gj G 1 1 + yd) (hyd0 : 0 ≤ yd) (hyd1 : yd ≤ 365)
    (h1 : yd < 80 → S = G - 79 ∧ m = (yd + 100) / 30 + 7 ∧ d = (yd + 100) % 30 + 1)
    (h2 : 80 ≤ yd → yd < 110 + lb → S = G - 78 ∧ m = 1 ∧ d = yd - 80 + 1)
    (h3 : 110 + lb ≤ yd → yd < 265 + lb → S = G - 78 ∧ m = (yd - 110 - lb) / 31 + 2 ∧ d = (yd - 110 - lb) % 31 + 1)
    (h4 : 265 + lb ≤ yd → S = G - 78 ∧ m = (yd - 265 - lb) / 30 + 7 ∧ d = (yd - 265 - lb) % 30 + 1) :
   Cl 5 w loose mean mg mb 85 [.float (Fq e) tj] (RetT3 S m d) := by
  have hb := hlb.le
  have hy : G.natAbs < 2 ^ 24 := gd.1
  have hgb : gj G 1 1 < 2 ^ 40 ∧ -2 ^ 40 < gj G 1 1 := by rw [gj_lo (by decide)]; omega
  have hgb' : gj G 1 1 < 2 ^ 40 := hgb.1
  have hgb'' : -2 ^ 40 < gj G 1 1 := hgb.2
  clear hgb
  subst he
  have mk := Mks.add0 "jd" (16 * gj G M D + 8) (Mks.add0 "yday" (16 * yd) Mks.nil)
  dsimp only [Cl, RetT3]
  k_fill
  intros
  rename_i hret
  refine wpAny_call ?_
  k_dflt cell_enter
  k_steps
  all_goals (refine' ret_t3D hret ?F ?N ?l ?e1 ?e2 ?e3; (case F => k_asm); (case N => assumption); (case l => assumption); (case e1 => omega); (case e2 => omega); (case e3 => omega))
local macro_rules | `(tactic| walk_at "call ref") => `(tactic| (k_here; (with_reducible show wpAny _ _ (call (Value.ref 85) [Value.float (Fq _) _]) _ _ _); (with_reducible rename (∀ (e : Int) (tj : Tok), e = _ → Cl _ _ _ _ _ _ 85 _ _) => hc9); k_dflt (refine' cl_use (hc9 _ _ ?p1) ?k1 ?k2 ?k3 ?k4 ?k5 ?kK ?kd ?ku ?_; (case p1 => omega); walk_at "my call"); intro D9 t9 u9 v9 c9 h9 tk9 F9 N9 l9; (try simp only [AllLt, and_true] at l9); (try dsimp only); (try k_fold)))
local macro_rules | `(tactic| walk_at "call ref") => `(tactic| (k_here; (with_reducible show wpAny _ _ (call (Value.ref 78) [Value.int _ _, Value.int _ _, Value.int _ _]) _ _ _); (with_reducible rename (∀ (t u v : Tok), Cl _ _ _ _ _ _ 78 _ _) => hc9); k_dflt (refine' cl_use (hc9 _ _ _) ?k1 ?k2 ?k3 ?k4 ?k5 ?kK ?kd ?ku ?_; walk_at "my call"); intro t9 h9 tk9 F9 N9; (try dsimp only); (try k_fold)))
theorem c_ifg (w : World) (loose : List Str) (mean : ExcName → Option Value) (mg mb : Str → Option Value) (S m d yd lb : Int) {G M D : Int} (tG tM tD : Tok) (gd : GDt G M D) (hlb : LBm (leapB G) lb)
    (hyd : gj G M D = gj G 1 1 + yd) (hyd0 : 0 ≤ yd) (hyd1 : yd ≤ 365)
    (h1 : yd < 80 → S = G - 79 ∧ m = (yd + 100) / 30 + 7 ∧ d = (yd + 100) % 30 + 1)
    (h2 : 80 ≤ yd → yd < 110 + lb → S = G - 78 ∧ m = 1 ∧ d = yd - 80 + 1)
    (h3 : 110 + lb ≤ yd → yd < 265 + lb → S = G - 78 ∧ m = (yd - 110 - lb) / 31 + 2 ∧ d = (yd - 110 - lb) % 31 + 1)
    (h4 : 265 + lb ≤ yd → S = G - 78 ∧ m = (yd - 265 - lb) / 30 + 7 ∧ d = (yd - 265 - lb) % 30 + 1) :
   Cl 6 w loose mean mg mb 92 [.int G tG, .int M tM, .int D tD] (RetT3 S m d) := by
  have g1 := gd.1
  have g2 := gd.2.1
  have g3 := gd.2.2.1
  have g4 := gd.2.2.2.1
  have g5 := gd.2.2.2.2
  have hc := fun (e : Int) (tj : Tok) (he : e = 16 * gj G M D + 8) => c_ifrom w loose mean mg mb e S m d yd lb tj gd he hlb hyd hyd0 hyd1 h1 h2 h3 h4
  clear h1 h2 h3 h4
  dsimp only [Cl, RetT3]
  k_fill
  intros
  rename_i hret
  refine wpAny_call ?_
  k_dflt cell_enter
  k_steps
  all_goals (refine' ret_t3E hret ?F ?N ?l ?e1 ?e2 ?e3; (case F => k_asm); (case N => assumption); (case l => assumption); (case e1 => rfl); (case e2 => rfl); (case e3 => rfl))
theorem c_itg (w : World) (loose : List Str) (mean : ExcName → Option Value) (mg mb : Str → Option Value) (Y m d lb : Int) (ty tm td : Tok) {G M D : Int} (gd : GDt G M D) (hlb : LBm (leapB (Y + 78)) lb) (hy : Y.natAbs < 2 ^ 23) (hm : 1 ≤ m) (hm2 : m ≤ 12) (hd : 1 ≤ d) (hd2 : d ≤ 31)
    (h1 : m = 1 → gj G M D = gj (Y + 78) 1 1 + 80 + d - 1) (h2 : 2 ≤ m → m ≤ 7 → gj G M D = gj (Y + 78) 1 1 + 80 + (30 + lb + (m - 2) * 31) + d - 1) (h3 : 8 ≤ m → gj G M D = gj (Y + 78) 1 1 + 80 + (30 + lb + 155 + (m - 7) * 30) + d - 1) :
   Cl 5 w loose mean mg mb 99 [.int Y ty, .int m tm, .int d td] (RetT3 G M D) := by
  have hc := fun (ty tm td : Tok) => c_ijd w loose mean mg mb Y m d (gj G M D) lb ty tm td hlb hy hm hm2 hd hd2 h1 h2 h3
  clear h1 h2 h3
  dsimp only [Cl, RetT3]
  k_fill
  intros
  rename_i hret
  refine wpAny_call ?_
  k_dflt cell_enter
  k_steps
  all_goals (refine' ret_t3E hret ?F ?N ?l ?e1 ?e2 ?e3; (case F => k_asm); (case N => assumption); (case l => assumption); (case e1 => rfl); (case e2 => rfl); (case e3 => rfl))
end
local macro_rules | `(tactic| walk_at "no such key") => `(tactic| fail)
local macro_rules | `(tactic| walk_at "no such key") => `(tactic| fail)
local macro_rules | `(tactic| walk_at "no such key") => `(tactic| fail)
section
theorem off5 : True := by
  w_top off
  trivial
theorem c_cjd (w : World) (loose : List Str) (mean : ExcName → Option Value) (mg mb : Str → Option Value) (y m d : Int) (ty tm td : Tok) (hy : y.natAbs < 2 ^ 24) (hm : m.natAbs < 20) (hd : d.natAbs < 40) :
   Cl 2 w loose mean mg mb 106 [.int y ty, .int m tm, .int d td] (RetV fun t => .float (Fq (16 * cj y m d + 8)) t) := by
  have hc := cj_def y m d
  dsimp only [Cl, RetV]
  k_fill
  intros
  rename_i hret
  refine wpAny_call ?_
  k_dflt cell_enter
  k_steps
  all_goals (refine' ret_flt hret ?e ?F ?N; (case F => k_asm); (case N => walk_at "my drop"); (case e => omega))
local macro_rules | `(tactic| walk_at "call ref") => `(tactic| (k_here; (with_reducible show wpAny _ _ (call (Value.ref 106) [Value.int _ _, Value.int _ _, Value.int _ _]) _ _ _); k_dflt (refine' cl_use (c_cjd _ _ _ _ _ _ _ _ _ _ _ ?p1 ?p2 ?p3) ?k1 ?k2 ?k3 ?k4 ?k5 ?kK ?kd ?ku ?_; (case p1 => omega); (case p2 => omega); (case p3 => omega); walk_at "my call"); intro t9 h9 tk9 F9 N9; (try dsimp only); (try k_fold)))
theorem c_cfrom (w : World) (loose : List Str) (mean : ExcName → Option Value) (mg mb : Str → Option Value) (e : Int) (tj : Tok) {y m d : Int} (cd : CDt y m d) (he : e = 16 * cj y m d + 8) :
   Cl 3 w loose mean mg mb 113 [.float (Fq e) tj] (RetT3 y m d) := by
  obtain ⟨u, hu, hu0, hu1, hY, hM, hD, h11⟩ := cop_data cd
  have hy : y.natAbs < 2 ^ 23 := cd.1
  have hm0 : 1 ≤ m := cd.2.1
  have hm1 : m ≤ 13 := cd.2.2.1
  have hd0 : 1 ≤ d := cd.2.2.2.1
  have hd1 : d ≤ 30 := cd.2.2.2.2.1
  have mk := Mks.add "year" y hY (Mks.add0 "yday" (16 * u) (Mks.add "month" m hM (Mks.add "day" (16 * d) hD Mks.nil)))
  clear hY hM hD
  subst he
  dsimp only [Cl, RetT3]
  k_fill
  intros
  rename_i hret
  refine wpAny_call ?_
  k_dflt cell_enter
  k_steps
  all_goals (refine' ret_t3E hret ?F ?N ?l ?e1 ?e2 ?e3; (case F => k_asm); (case N => assumption); (case l => first | assumption | exact allLt_of (by assumption)); (case e1 => omega); (case e2 => omega); (case e3 => omega))
local macro_rules | `(tactic| walk_at "call ref") => `(tactic| (k_here; (with_reducible show wpAny _ _ (call (Value.ref 113) [Value.float (Fq _) _]) _ _ _); (with_reducible rename CDt _ _ _ => cd9); k_dflt (refine' cl_use (c_cfrom _ _ _ _ _ _ _ cd9 ?p1) ?k1 ?k2 ?k3 ?k4 ?k5 ?kK ?kd ?ku ?_; (case p1 => omega); walk_at "my call"); intro D9 t9 u9 v9 c9 h9 tk9 F9 N9 l9; (try simp only [AllLt, and_true] at l9); (try dsimp only); (try k_fold)))
theorem c_ctg (w : World) (loose : List Str) (mean : ExcName → Option Value) (mg mb : Str → Option Value) (y m d : Int) (ty tm td : Tok) {G M D : Int} (cd : CDt y m d) (gd : GDt G M D) (h : gj G M D = cj y m d) :
   Cl 5 w loose mean mg mb 120 [.int y ty, .int m tm, .int d td] (RetT3 G M D) := by
  obtain ⟨c1, c2, c3, c4, c5, c6, c7⟩ := cd
  clear c6 c7
  dsimp only [Cl, RetT3]
  k_fill
  intros
  rename_i hret
  refine wpAny_call ?_
  k_dflt cell_enter
  k_steps
  all_goals (refine' ret_t3E hret ?F ?N ?l ?e1 ?e2 ?e3; (case F => k_asm); (case N => assumption); (case l => assumption); (case e1 => rfl); (case e2 => rfl); (case e3 => rfl))
theorem c_cfg (w : World) (loose : List Str) (mean : ExcName → Option Value) (mg mb : Str → Option Value) (y m d : Int) {G M D : Int} (tG tM tD : Tok) (cd : CDt y m d) (gd : GDt G M D) (h : gj G M D = cj y m d) :
   Cl 4 w loose mean mg mb 127 [.int G tG, .int M tM, .int D tD] (RetT3 y m d) := by
  obtain ⟨g1, g2, g3, g4, g5⟩ := gd
  dsimp only [Cl, RetT3]
  k_fill
  intros
  rename_i hret
  refine wpAny_call ?_
  k_dflt cell_enter
  k_steps
  all_goals (refine' ret_t3E hret ?F ?N ?l ?e1 ?e2 ?e3; (case F => k_asm); (case N => assumption); (case l => assumption); (case e1 => rfl); (case e2 => rfl); (case e3 => rfl))
end
local macro_rules | `(tactic| walk_at "no such key") => `(tactic| fail)
local macro_rules | `(tactic| walk_at "no such key") => `(tactic| fail)
local macro_rules | `(tactic| walk_at "no such key") => `(tactic| fail)
section
theorem off6 : True := by
  w_top off
  trivial
theorem c_jleap (w : World) (loose : List Str) (mean : ExcName → Option Value) (mg mb : Str → Option Value) (y : Int) (ty : Tok) {b : Bool} (hb : (y % 4 == 0) = b) :
   Cl 1 w loose mean mg mb 135 [.int y ty] (RetV fun _ => .bool b) := by
  dsimp only [Cl, RetV]
  k_fill
  intros
  rename_i hret
  refine wpAny_call ?_
  k_dflt cell_enter
  k_steps
  all_goals (refine' ret_bool hret ?e ?F ?N; (case F => k_asm); (case N => walk_at "my drop"); (case e => exact hb))
local macro_rules | `(tactic| walk_at "call ref") => `(tactic| (k_here; (with_reducible show wpAny _ _ (call (Value.ref 135) [Value.int _ _]) _ _ _); k_dflt (refine' cl_use (c_jleap _ _ _ _ _ _ _ ?p1) ?k1 ?k2 ?k3 ?k4 ?k5 ?kK ?kd ?ku ?_; (case p1 => assumption); walk_at "my call"); intro t9 h9 tk9 F9 N9; (try dsimp only); (try k_fold)))
theorem c_jlen (w : World) (loose : List Str) (mean : ExcName → Option Value) (mg mb : Str → Option Value) (y m : Int) (ty tm : Tok) :
   Cl 2 w loose mean mg mb 142 [.int y ty, .int m tm] (RetV fun t => .int (jlen y m) t) := by
  dsimp only [Cl, RetV]
  k_fill
  have pr := Prn.mk
  rcases jlen_cases y m with ⟨hc, hL, hv⟩ | ⟨hc, hL, hv⟩ | ⟨hc, hA, hv⟩ | ⟨hc, hA, hv⟩
  case inl => (
      have hL2 : (y % 4 == 0) = true := by simp [hL]
      rw [hv]
      intros
      rename_i hret
      refine wpAny_call ?_
      k_dflt cell_enter
      k_steps
      all_goals (refine' ret_int hret ?e ?F ?N; (case F => k_asm); (case N => walk_at "my drop"); (case e => rfl)))
  case inr.inl => (
      have hL2 : (y % 4 == 0) = false := by simp [hL]
      rw [hv]
      intros
      rename_i hret
      refine wpAny_call ?_
      k_dflt cell_enter
      k_steps
      all_goals (refine' ret_int hret ?e ?F ?N; (case F => k_asm); (case N => walk_at "my drop"); (case e => rfl)))
  all_goals (
      rw [hv]
      intros
      rename_i hret
      refine wpAny_call ?_
      k_dflt cell_enter
      k_steps
      all_goals (refine' ret_int hret ?e ?F ?N; (case F => k_asm); (case N => walk_at "my drop"); (case e => rfl)))
local macro_rules | `(tactic| walk_at "call ref") => `(tactic| (k_here; (with_reducible show wpAny _ _ (call (Value.ref 142) [Value.int _ _, Value.int _ _]) _ _ _); k_dflt (refine' cl_use (c_jlen _ _ _ _ _ _ _ _ _) ?k1 ?k2 ?k3 ?k4 ?k5 ?kK ?kd ?ku ?_; walk_at "my call"); intro t9 h9 tk9 F9 N9; (try dsimp only); (try k_fold)))
theorem c_jlegal (w : World) (loose : List Str) (mean : ExcName → Option Value) (mg mb : Str → Option Value) (y m d : Int) (ty tm td : Tok) (hd : 1 ≤ d) (hd2 : d ≤ jlen y m) :
   Cl 3 w loose mean mg mb 149 [.int y ty, .int m tm, .int d td] (RetV fun _ => .bool true) := by
  dsimp only [Cl, RetV]
  k_fill
  have pr := Prn.mk
  intros
  rename_i hret
  refine wpAny_call ?_
  k_dflt cell_enter
  k_steps
  all_goals (refine' ret_bool hret ?e ?F ?N; (case F => k_asm); (case N => walk_at "my drop"); (case e => rfl))
local macro_rules | `(tactic| walk_at "call ref") => `(tactic| (k_here; (with_reducible show wpAny _ _ (call (Value.ref 149) [Value.int _ _, Value.int _ _, Value.int _ _]) _ _ _); k_dflt (refine' cl_use (c_jlegal _ _ _ _ _ _ _ _ _ _ _ ?p1 ?p2) ?k1 ?k2 ?k3 ?k4 ?k5 ?kK ?kd ?ku ?_; (case p1 => assumption); (case p2 => assumption); walk_at "my call"); intro t9 h9 tk9 F9 N9; (try dsimp only); (try k_fold)))
theorem c_jjd (w : World) (loose : List Str) (mean : ExcName → Option Value) (mg mb : Str → Option Value) (y m d : Int) (ty tm td : Tok) (jd : JDt y m d) :
   Cl 4 w loose mean mg mb 163 [.int y ty, .int m tm, .int d td] (RetV fun t => .float (Fq (16 * jj y m d + 8)) t) := by
  obtain ⟨j1, j2, j3, j4, j5⟩ := jd
  have hd31 : d ≤ 31 := Int.le_trans j5 (by unfold jlen; split <;> (try split) <;> omega)
  dsimp only [Cl, RetV]
  k_fill
  intros
  rename_i hret
  refine wpAny_call ?_
  k_dflt cell_enter
  k_steps
  all_goals (refine' ret_flt hret ?e ?F ?N; (case F => k_asm); (case N => walk_at "my drop"); (case e => (first | rw [jj_lo (by assumption)] | rw [jj_hi (by assumption)]); omega))
end
local macro_rules | `(tactic| walk_at "no such key") => `(tactic| fail)
local macro_rules | `(tactic| walk_at "no such key") => `(tactic| fail)
local macro_rules | `(tactic| walk_at "no such key") => `(tactic| fail)
local macro_rules | `(tactic| walk_at "no such key") => `(tactic| fail)
local macro_rules | `(tactic| walk_at "call ref") => `(tactic| (k_here; (with_reducible show wpAny _ _ (call (Value.ref 163) [Value.int _ _, Value.int _ _, Value.int _ _]) _ _ _); k_dflt (refine' cl_use (c_jjd _ _ _ _ _ _ _ _ _ _ _ ?p1) ?k1 ?k2 ?k3 ?k4 ?k5 ?kK ?kd ?ku ?_; (case p1 => with_reducible assumption); walk_at "my call"); intro t9 h9 tk9 F9 N9; (try dsimp only); (try k_fold)))
section
theorem off7 : True := by
  w_top off
  trivial
theorem c_jfrom (w : World) (loose : List Str) (mean : ExcName → Option Value) (mg mb : Str → Option Value) (e : Int) (tj : Tok) {y m d : Int} (jd : JDt y m d) (he : e = 16 * jj y m d + 8) :
   Cl 2 w loose mean mg mb 156 [.float (Fq e) tj] (RetT3 y m d) := by
  obtain ⟨C, E, h1, hC, hE, hE0, hE1, hn0, hn1, hm1, hm2, hy1, hy2⟩ := jul_data jd
  have hy : y.natAbs < 2 ^ 20 := jd.1
  have hd0 : 1 ≤ d := jd.2.2.2.1
  have hCb : -2000000 < C ∧ C < 2000000 := by omega
  have hCb1 : -2000000 < C := hCb.1
  have hCb2 : C < 2000000 := hCb.2
  clear hCb
  have hjb : jj y m d + 1525 - 5844 * C / 16 < 512 := hn1
  subst he
  have mk := Mks.add0 "jd" (16 * (jj y m d + 1)) (Mks.add0 "a" (jj y m d + 1) (Mks.add0 "b" (jj y m d + 1525) (Mks.add "c" C hC (Mks.add0 "d" (5844 * C / 16) (Mks.add "e" E hE (Mks.add "month" m (And.intro hm1 hm2) (Mks.add "year" y (And.intro hy1 hy2) (Mks.add "day" d h1 Mks.nil))))))))
  clear hC hE hm1 hm2 hy1 hy2 h1
  dsimp only [Cl, RetT3]
  k_fill
  intros
  rename_i hret
  refine wpAny_call ?_
  k_dflt cell_enter
  k_steps
  all_goals (refine' ret_t3E hret ?F ?N ?l ?e1 ?e2 ?e3; (case F => k_asm); (case N => assumption); (case l => first | assumption | exact allLt_of (by assumption)); (case e1 => omega); (case e2 => omega); (case e3 => omega))
local macro_rules | `(tactic| walk_at "call ref") => `(tactic| (k_here; (with_reducible show wpAny _ _ (call (Value.ref 156) [Value.float (Fq _) _]) _ _ _); (with_reducible rename JDt _ _ _ => jd9); k_dflt (refine' cl_use (c_jfrom _ _ _ _ _ _ _ jd9 ?p1) ?k1 ?k2 ?k3 ?k4 ?k5 ?kK ?kd ?ku ?_; (case p1 => omega); walk_at "my call"); intro D9 t9 u9 v9 c9 h9 tk9 F9 N9 l9; (try simp only [AllLt, and_true] at l9); (try dsimp only); (try k_fold)))
theorem c_jfg (w : World) (loose : List Str) (mean : ExcName → Option Value) (mg mb : Str → Option Value) (y m d : Int) {G M D : Int} (tG tM tD : Tok) (jd : JDt y m d) (gd : GDt G M D) (h : gj G M D = jj y m d) :
   Cl 4 w loose mean mg mb 170 [.int G tG, .int M tM, .int D tD] (RetT3 y m d) := by
  obtain ⟨g1, g2, g3, g4, g5⟩ := gd
  dsimp only [Cl, RetT3]
  k_fill
  intros
  rename_i hret
  refine wpAny_call ?_
  k_dflt cell_enter
  k_steps
  all_goals (refine' ret_t3E hret ?F ?N ?l ?e1 ?e2 ?e3; (case F => k_asm); (case N => assumption); (case l => assumption); (case e1 => rfl); (case e2 => rfl); (case e3 => rfl))
theorem c_jtg (w : World) (loose : List Str) (mean : ExcName → Option Value) (mg mb : Str → Option Value) (y m d : Int) (ty tm td : Tok) {G M D : Int} (jd : JDt y m d) (gd : GDt G M D) (h : gj G M D = jj y m d) :
   Cl 5 w loose mean mg mb 177 [.int y ty, .int m tm, .int d td] (RetT3 G M D) := by
  dsimp only [Cl, RetT3]
  k_fill
  intros
  rename_i hret
  refine wpAny_call ?_
  k_dflt cell_enter
  k_steps
  all_goals (refine' ret_t3E hret ?F ?N ?l ?e1 ?e2 ?e3; (case F => k_asm); (case N => assumption); (case l => assumption); (case e1 => rfl); (case e2 => rfl); (case e3 => rfl))
end
local macro_rules | `(tactic| walk_at "no such key") => `(tactic| fail)
local macro_rules | `(tactic| walk_at "no such key") => `(tactic| fail)
section
theorem off8 : True := by
  w_top off
  trivial
local macro_rules | `(tactic| walk_at "execs cons") => `(tactic| (k_here; ((with_reducible refine wpAny_execs_cons ?_); try dsimp only)))
theorem c_ofg (w : World) (loose : List Str) (mean : ExcName → Option Value) (mg mb : Str → Option Value) (yd lb : Int) {Y M D : Int} (tY tM tD : Tok) (gd : GDt Y M D) (hlb : LBm (leapB Y) lb) (h : gj Y M D = gj Y 1 1 + yd) :
   Cl 2 w loose mean mg mb 184 [.int Y tY, .int M tM, .int D tD] (RetT2 Y (yd + 1)) := by
  obtain ⟨d0, d1, d2, d3, _, _, _⟩ := ord_data gd hlb h
  obtain ⟨g1, g2, g3, g4, g5⟩ := gd
  have hb := hlb.le
  clear g5
  have pr := Prn.mk
  dsimp only [Cl, RetT2]
  k_fill
  intros
  rename_i hret
  refine wpAny_call ?_
  k_dflt cell_enter
  k_steps
  all_goals (refine' ret_t2E hret ?F ?N ?l ?e1 ?e2; (case F => k_asm); (case N => assumption); (case l => first | assumption | exact allLt_of (by assumption)); (case e1 => omega); (case e2 => omega))
local macro_rules | `(tactic| walk_at "call ref") => `(tactic| (k_here; (with_reducible show wpAny _ _ (call (Value.ref 184) [Value.int _ _, Value.int _ _, Value.int _ _]) _ _ _); (with_reducible rename (∀ (t u v : Tok), Cl _ _ _ _ _ _ 184 _ _) => hc9); k_dflt (refine' cl_use (hc9 _ _ _) ?k1 ?k2 ?k3 ?k4 ?k5 ?kK ?kd ?ku ?_; walk_at "my call"); intro D9 t9 u9 c9 h9 tk9 F9 N9 l9; (try simp only [AllLt, and_true] at l9); (try dsimp only); (try k_fold)))
theorem c_otg (w : World) (loose : List Str) (mean : ExcName → Option Value) (mg mb : Str → Option Value) (p yd lb : Int) {Y M D : Int} (tY tp : Tok) (gd : GDt Y M D) (hlb : LBm (leapB Y) lb) (h : gj Y M D = gj Y 1 1 + yd) (hp : p = yd + 1) :
   Cl 3 w loose mean mg mb 191 [.int Y tY, .int p tp] (RetT3 Y M D) := by
  obtain ⟨d0, d1, _, _, d4, d5, d6⟩ := ord_data gd hlb h
  have hc := fun (t u v : Tok) => c_ofg w loose mean mg mb (yd - D + 1) lb t u v gd.first hlb d4
  obtain ⟨g1, g2, g3, g4, g5⟩ := gd
  have hb := hlb.le
  clear g5
  have mk := Mks.add "month" M (And.intro d5 d6) Mks.nil
  clear d5 d6
  dsimp only [Cl, RetT3]
  k_fill
  intros
  rename_i hret
  refine wpAny_call ?_
  k_dflt cell_enter
  k_steps
  all_goals (refine' ret_t3D hret ?F ?N ?l ?e1 ?e2 ?e3; (case F => k_asm); (case N => assumption); (case l => assumption); (case e1 => omega); (case e2 => omega); (case e3 => omega))
end
local macro_rules | `(tactic| walk_at "no such key") => `(tactic| fail)
local macro_rules | `(tactic| walk_at "no such key") => `(tactic| fail)
local macro_rules | `(tactic| walk_at "no such key") => `(tactic| fail)
section
theorem off9 : True := by
  w_top off
  trivial
theorem mlen_getD {m lb : Int} (h0 : 1 ≤ m) (h1 : m ≤ 12) : ([31, 28 + lb, 31, 30, 31, 30, 31, 31, 30, 31, 30, 31] : List Int).getD (m - 1).toNat 0 = mlen m lb := by
  rcases months h0 h1 with rfl | rfl | rfl | rfl | rfl | rfl | rfl | rfl | rfl | rfl | rfl | rfl <;> rfl
theorem x_itemM {prog : Program} {w : World} {A : Around} {E : Value → Shared → Prop} {s : Shared} {value slice : Expr} {l : Addr} {vs : List Value} {m k g : Int} {u : Tok} {Q : Value → Shared → Prop} (_ : Itm m g)
    (hl : s.heap.IsList l vs.toArray) (h0 : 0 ≤ k) (hhi : k < 2 ^ 63) (hx : ∃ t, vs[k.toNat]? = some (.int g t)) (h : ∀ t, Q (.int g t) s)
    (hs : subscripted slice false (.ref l) (.int k u) = operate [.ref l, .int k u] (getItem (.ref l) (.int k u)) := by with_unfolding_all rfl) :
    wpAny (model prog w) A (subscriptTail value slice (.ref l) (.int k u)) Q E s := x_item hl h0 hhi hx h hs
theorem ret_t3L {h₀ h' : Heap} {L D : Addr} {m : Str → Option Value} {news mid : List (Addr × Obj)} {s : Shared} {Q : Value → Shared → Prop} {tk' : Nat} {t1 t2 t3 : Tok} {c : Nat} {x y z x' y' z' : Int} (hret : RetT3 x y z h₀ L m news s Q) (F : Fr h₀ L h' m) (N : News h₀ L h' ((D, ({ cls := .type "tuple", data := .seq #[.int x' t1, .int y' t2, .int z' t3] c } : Obj)) :: mid)) (S : ∀ q ∈ news, q ∈ mid) (l : AllLt D news) (e1 : x' = x) (e2 : y' = y) (e3 : z' = z) : Q (.ref D) { s with heap := h', toks := tk' } := by
  subst e1 e2 e3
  refine hret D t1 t2 t3 c h' tk' F (fun q hq => ?_) l
  rcases List.mem_cons.mp hq with rfl | hq
  · exact N _ List.mem_cons_self
  · exact N q (List.mem_cons_of_mem _ (S q hq))
theorem c_long0 (w : World) (loose : List Str) (mean : ExcName → Option Value) (mg mb : Str → Option Value) (k y : Int) (tk ty : Tok) (hk : k = 0) :
   Cl 1 w loose mean mg mb 212 [.int k tk, .int y ty] (RetV fun _ => .bool (leapB y)) := by
  subst hk
  dsimp only [Cl, RetV]
  k_fill
  intros
  rename_i hret
  refine wpAny_call ?_
  k_dflt cell_enter
  k_steps
  all_goals (refine' ret_bool hret ?e ?F ?N; (case F => k_asm); (case N => walk_at "my drop"); (case e => (rw [Bool.eq_iff_iff, leapB_iff]; simp only [beq_iff_eq, bne_iff_ne, ne_eq]; omega)))
theorem c_long1 (w : World) (loose : List Str) (mean : ExcName → Option Value) (mg mb : Str → Option Value) (k y : Int) (tk ty : Tok) (hk : k = 1) :
   Cl 1 w loose mean mg mb 212 [.int k tk, .int y ty] (RetV fun _ => .bool (y % 4 == 0)) := by
  subst hk
  dsimp only [Cl, RetV]
  k_fill
  intros
  rename_i hret
  refine wpAny_call ?_
  k_dflt cell_enter
  k_steps
  all_goals (refine' ret_bool hret ?e ?F ?N; (case F => k_asm); (case N => walk_at "my drop"); (case e => rfl))
local macro_rules | `(tactic| walk_at "call ref") => `(tactic| (k_here; (with_reducible show wpAny _ _ (call (Value.ref 212) [Value.int _ _, Value.int _ _]) _ _ _); k_dflt ((first | (refine' cl_use (c_long0 _ _ _ _ _ _ _ _ _ ?p1) ?k1 ?k2 ?k3 ?k4 ?k5 ?kK ?kd ?ku ?_; (case p1 => omega)) | (refine' cl_use (c_long1 _ _ _ _ _ _ _ _ _ ?p1) ?k1 ?k2 ?k3 ?k4 ?k5 ?kK ?kd ?ku ?_; (case p1 => omega)) | ((with_reducible rename (∀ (t u : Tok), Cl _ _ _ _ _ _ 212 _ _) => hc9); refine' cl_use (hc9 _ _) ?k1 ?k2 ?k3 ?k4 ?k5 ?kK ?kd ?ku ?_)); walk_at "my call"); intro t9 h9 tk9 F9 N9; (try dsimp only); (try k_fold)))
local macro_rules | `(tactic| walk_at "ite") => `(tactic| (k_here; (with_reducible refine' x_ite_const ?hb ?e ?_); (case hb => assumption); (case e => decide); (try dsimp only)))
theorem c_on (w : World) (loose : List Str) (mean : ExcName → Option Value) (mg mb : Str → Option Value) (k y m d r lb G M D : Int) (b : Bool) (Dt : Addr) (c : Nat) (tk tr ty tm td : Tok) (hlb : LBm b lb) (hc : ∀ t u : Tok, Cl 1 w loose mean mg mb 212 [.int k t, .int y u] (RetV fun _ => .bool b)) (hm0 : 1 ≤ m) (hm1 : m ≤ 12)
    (h1 : d + r ≤ mlen m lb → G = y ∧ M = m ∧ D = d + r) (h2 : mlen m lb < d + r → m < 12 → G = y ∧ M = m + 1 ∧ D = d + r - mlen m lb) (h3 : mlen m lb < d + r → ¬ m < 12 → G = y + 1 ∧ M = 1 ∧ D = d + r - mlen m lb) :
   ClM 2 w loose mean mg mb (fun news => (Dt, ({ cls := .type "tuple", data := .seq #[.int y ty, .int m tm, .int d td] c } : Obj)) ∈ news) 226 [.int k tk, .ref Dt, .int r tr] (RetT3 G M D) := by
  have mk := Mks.add "length" (mlen m lb) (mlen_getD (lb := lb) hm0 hm1) Mks.nil
  dsimp only [ClM, RetT3]
  k_fill
  intros
  rename_i hret
  refine wpAny_call ?_
  k_dflt cell_enter
  k_steps
  all_goals (refine' ret_t3L hret ?F ?N ?S ?l ?e1 ?e2 ?e3; (case F => k_asm); (case N => assumption); (case S => intro q hq; exact List.mem_cons_of_mem _ hq); (case l => first | assumption | exact And.right (by assumption)); (case e1 => omega); (case e2 => omega); (case e3 => omega))
end
local macro_rules | `(tactic| walk_at "no such key") => `(tactic| fail)
local macro_rules | `(tactic| walk_at "no such key") => `(tactic| fail)
local macro_rules | `(tactic| walk_at "no such key") => `(tactic| fail)
local macro_rules | `(tactic| walk_at "call ref") => `(tactic| (k_here; (with_reducible show wpAny _ _ (call (Value.ref 212) [Value.int _ _, Value.int _ _]) _ _ _); k_dflt ((first | (refine' cl_use (c_long0 _ _ _ _ _ _ _ _ _ ?p1) ?k1 ?k2 ?k3 ?k4 ?k5 ?kK ?kd ?ku ?_; (case p1 => omega)) | (refine' cl_use (c_long1 _ _ _ _ _ _ _ _ _ ?p1) ?k1 ?k2 ?k3 ?k4 ?k5 ?kK ?kd ?ku ?_; (case p1 => omega))); walk_at "my call"); intro t9 h9 tk9 F9 N9; (try dsimp only); (try k_fold)))
local macro_rules | `(tactic| walk_at "ite") => `(tactic| (k_here; (with_reducible refine' x_ite_const ?hb ?e ?_); (case hb => assumption); (case e => decide); (try dsimp only)))
section
theorem off10 : True := by
  w_top off
  trivial
local macro_rules | `(tactic| walk_at "execs cons") => `(tactic| (k_here; ((with_reducible refine wpAny_execs_cons ?_); try dsimp only)))
local macro_rules | `(tactic| walk_at "call ref") => `(tactic| (k_here; (first | (with_reducible show wpAny _ _ (call (Value.ref 198) _) _ _ _) | (with_reducible show wpAny _ _ (call (Value.ref 205) _) _ _ _)); (refine wpAny_call ?_); k_dflt (refine' code_def ?k1 ?k2 ?k3 ?k4 ?k5 ?kA ?kF ?kK ?k6 ?k7 ?k8 ?k9 ?kB ?_ ?c2 ?c3 ?c4 ?c5; (case kA => exact rfl); (case kF => exact rfl); (case kK => exact rfl); (case k1 => k_asm); (case k2 => k_asm); (case k3 => k_asm); (case k4 => k_asm); (case k5 => k_asm); (case k6 => k_is); (case k7 => k_is); (case k8 => ktr_room); (case k9 => exact BindsTo.of_eq rfl); (case c5 => decide); (case kB => exact locs rfl); (case c2 => exact rfl); (case c3 => exact rfl); (case c4 => exact rfl); k_whole); intro g' L' h' FG' F' N' B' X' T'; (try dsimp only); (try k_fold)))
theorem x_itemL {prog : Program} {w : World} {A : Around} {E : Value → Shared → Prop} {s : Shared} {value slice : Expr} {l : Addr} {vs : List Value} {k : Int} {u : Tok} {x : Value} {Q : Value → Shared → Prop}
    (hl : s.heap.IsList l vs.toArray) (h0 : 0 ≤ k) (hhi : k < 2 ^ 63) (hx : vs[k.toNat]? = some x) (h : Q x s)
    (hs : subscripted slice false (.ref l) (.int k u) = operate [.ref l, .int k u] (getItem (.ref l) (.int k u))) :
    wpAny (model prog w) A (subscriptTail value slice (.ref l) (.int k u)) Q E s :=
  tail_any hl.typeIs slot_list_getitem.lookup (wpAny_getItem_list hl h0 hhi (by simpa using hx) h) hs
local macro_rules | `(tactic| walk_at "subscriptTail") => `(tactic| (k_here; (with_reducible show wpAny _ _ (subscriptTail _ _ (Value.ref _) (Value.int (_ - 1) _)) _ _ _); k_dflt (refine' x_itemL (News.isList ?N ?M) ?h0 ?h1 ?hx ?_ ?hs; (case N => k_asm); (case M => k_mem); (case h0 => decide); (case h1 => decide); (case hx => exact rfl); (case hs => with_unfolding_all exact rfl))))
local macro_rules | `(tactic| walk_at "subscriptTail Call") => `(tactic| (k_here; (with_reducible show wpAny _ _ (subscriptTail _ _ (Value.ref _) (Value.int (_ - 1) _)) _ _ _); k_dflt (refine' x_itemL (News.isList ?N ?M) ?h0 ?h1 ?hx ?_ ?hs; (case N => k_asm); (case M => k_mem); (case h0 => decide); (case h1 => decide); (case hx => exact rfl); (case hs => with_unfolding_all exact rfl))))
local macro_rules | `(tactic| walk_at "ite") => `(tactic| (k_here; k_dflt (first | refine ite_neg (by decide) ?_ | refine ite_pos (by decide) ?_)))
theorem c_begin0 (w : World) (loose : List Str) (mean : ExcName → Option Value) (mg mb : Str → Option Value) (k y m lb lb2 : Int) (tk ty tm : Tok) (hk : k = 0) (hm : 1 ≤ m) (hm2 : m ≤ 13) (hlb : LBm (leapB (y + 78)) lb) (hlb2 : LBm (leapB (y + 79)) lb2) :
   Cl 3 w loose mean mg mb 219 [.int k tk, .int y ty, .int m tm] (RetT3 (sY y m) (sM m) (sD m lb lb2)) := by
  subst hk
  have hb := hlb.le
  have hb2 := hlb2.le
  rw [show y + 79 = y + 1 + 78 by omega] at hlb2
  have hc : m = 13 ∨ Spl m := by unfold Spl; omega
  have pr := Prn.mk
  dsimp only [Cl, RetT3]
  k_fill
  rcases hc with rfl | hs
  case inl =>
    clear hm hm2
    intros
    rename_i hret
    refine wpAny_call ?_
    k_dflt cell_enter
    k_steps
    all_goals (refine' ret_t3L hret ?F ?N ?S ?l ?e1 ?e2 ?e3; (case F => k_asm); (case N => assumption); (case S => intro q hq; repeat (first | exact hq | refine List.mem_cons_of_mem _ ?_)); (case l => first | assumption | (simp_all only [AllLt]; done)); (case e1 => simp [sY]; omega); (case e2 => rfl); (case e3 => simp [sD]; omega))
  case inr =>
    have hm13 : ¬ m = 13 := by have := hs.2; omega
    obtain ⟨sp8, sp7⟩ := hs
    clear hlb2 hm hm2
    intros
    rename_i hret
    refine wpAny_call ?_
    k_dflt cell_enter
    repeat' (first | (k_unfold; (try dsimp only)) | (k_end; wrow_close) | ((fail_if_success (with_reducible show wpAny _ _ (subscriptTail _ _ _ _) _ _ _)); walk1) | ((fail_if_success (with_reducible show wpAny _ _ (subscriptTail _ _ _ _) _ _ _)); (dsimp only; walk1)) | (leave1; walk_say "STEP leave1"; try dsimp only) | fail "no step")
    rcases months sp8 sp7 with rfl | rfl | rfl | rfl | rfl | rfl | rfl | rfl | rfl | rfl | rfl | rfl
    all_goals clear sp8 sp7
    all_goals (
      k_steps
      all_goals (refine' ret_t3L hret ?F ?N ?S ?l ?e1 ?e2 ?e3; (case F => k_asm); (case N => assumption); (case S => intro q hq; repeat (first | exact hq | refine List.mem_cons_of_mem _ ?_)); (case l => first | assumption | (simp_all only [AllLt]; done)); (case e1 => first | rfl | (simp [sY]; done) | (simp [sY]; omega)); (case e2 => first | rfl | (simp [sM]; done)); (case e3 => first | rfl | (simp [sD]; omega))))
theorem c_begin1 (w : World) (loose : List Str) (mean : ExcName → Option Value) (mg mb : Str → Option Value) (k y m la la2 : Int) (tk ty tm : Tok) (hk : k = 1) (hm : 1 ≤ m) (hm2 : m ≤ 14) (hla : (y % 4 = 0 → la = 1) ∧ (¬ y % 4 = 0 → la = 0)) (hla2 : ((y + 1) % 4 = 0 → la2 = 1) ∧ (¬ (y + 1) % 4 = 0 → la2 = 0)) :
   Cl 3 w loose mean mg mb 219 [.int k tk, .int y ty, .int m tm] (RetT3 (cY y m) (cM m) (cD m la la2)) := by
  subst hk
  have hc : m = 14 ∨ Spl13 m := by unfold Spl13; omega
  have pr := Prn.mk
  dsimp only [Cl, RetT3]
  k_fill
  rcases hc with rfl | hs
  case inl =>
    clear hm hm2
    intros
    rename_i hret
    refine wpAny_call ?_
    k_dflt cell_enter
    k_steps
    all_goals (refine' ret_t3L hret ?F ?N ?S ?l ?e1 ?e2 ?e3; (case F => k_asm); (case N => assumption); (case S => intro q hq; repeat (first | exact hq | refine List.mem_cons_of_mem _ ?_)); (case l => first | assumption | (simp_all only [AllLt]; done)); (case e1 => simp [cY]; omega); (case e2 => rfl); (case e3 => simp [cD]; omega))
  case inr =>
    have hm14 : ¬ m = 14 := by have := hs.2; omega
    obtain ⟨sp8, sp7⟩ := hs
    clear hla2 hm hm2
    intros
    rename_i hret
    refine wpAny_call ?_
    k_dflt cell_enter
    repeat' (first | (k_unfold; (try dsimp only)) | (k_end; wrow_close) | ((fail_if_success (with_reducible show wpAny _ _ (subscriptTail _ _ _ _) _ _ _)); walk1) | ((fail_if_success (with_reducible show wpAny _ _ (subscriptTail _ _ _ _) _ _ _)); (dsimp only; walk1)) | (leave1; walk_say "STEP leave1"; try dsimp only) | fail "no step")
    rcases months13 sp8 sp7 with rfl | rfl | rfl | rfl | rfl | rfl | rfl | rfl | rfl | rfl | rfl | rfl | rfl
    all_goals clear sp8 sp7
    all_goals (
      k_steps
      all_goals (refine' ret_t3L hret ?F ?N ?S ?l ?e1 ?e2 ?e3; (case F => k_asm); (case N => assumption); (case S => intro q hq; repeat (first | exact hq | refine List.mem_cons_of_mem _ ?_)); (case l => first | assumption | (simp_all only [AllLt]; done)); (case e1 => first | rfl | (simp [cY]; done) | (simp [cY]; omega)); (case e2 => first | rfl | (simp [cM]; done)); (case e3 => first | rfl | (simp [cD]; omega))))
end
local macro_rules | `(tactic| walk_at "no such key") => `(tactic| fail)
local macro_rules | `(tactic| walk_at "no such key") => `(tactic| fail)
local macro_rules | `(tactic| walk_at "no such key") => `(tactic| fail)
local macro_rules | `(tactic| walk_at "no such key") => `(tactic| fail)
local macro_rules | `(tactic| walk_at "no such key") => `(tactic| fail)
local macro_rules | `(tactic| walk_at "no such key") => `(tactic| fail)
section
theorem off11 : True := by
  w_top off
  trivial
theorem x_storeG {prog : Program} {w : World} {A : Around} {E : Value → Shared → Prop} {Q : Unit → Shared → Prop} {s : Shared} {env : Env} {x : Str} {e : Int} {t : Tok} (P : Int → Prop) (h : P e) (hk : ∀ v : Int, P v → wpAny (model prog w) A (storeName env x (.int v t)) Q E s) :
    wpAny (model prog w) A (storeName env x (.int e t)) Q E s := hk e h
theorem slen_getD {m lb : Int} (h0 : 1 ≤ m) (h1 : m ≤ 12) : ([30 + lb, 31, 31, 31, 31, 31, 30, 30, 30, 30, 30, 30] : List Int).getD (m - 1).toNat 0 = slen m lb := by
  rcases months h0 h1 with rfl | rfl | rfl | rfl | rfl | rfl | rfl | rfl | rfl | rfl | rfl | rfl <;> rfl
theorem clen_getD {m l6 : Int} (h0 : 1 ≤ m) (h1 : m ≤ 13) : ([30, 30, 30, 30, 30, 30, 30, 30, 30, 30, 30, 30, 5 + l6] : List Int).getD (m - 1).toNat 0 = clen m l6 := by
  rcases months13 h0 h1 with rfl | rfl | rfl | rfl | rfl | rfl | rfl | rfl | rfl | rfl | rfl | rfl | rfl <;> rfl
theorem spast_next {m lb : Int} (h0 : 1 ≤ m) (h1 : m ≤ 12) : spast m lb + slen m lb = spast (m + 1) lb := by
  unfold spast slen; rcases months h0 h1 with rfl | rfl | rfl | rfl | rfl | rfl | rfl | rfl | rfl | rfl | rfl | rfl <;> simp <;> omega
theorem x_store_year {prog : Program} {w : World} {A : Around} {E : Value → Shared → Prop} {Q : Unit → Shared → Prop} {s : Shared} {env : Env} {e a : Int} {t : Tok} (hk : ∀ Y : Int, a - 1000000 ≤ Y → Y ≤ a + 1000000 → wpAny (model prog w) A (storeName env (Str.ofString "year") (.int Y t)) Q E s) :
    wpAny (model prog w) A (storeName env (Str.ofString "year") (.int (a + ((e + 1000000) % (2 * 1000000 + 1) - 1000000)) t)) Q E s := by
  have h1 := Int.emod_nonneg (e + 1000000) (show (2 * 1000000 + 1 : Int) ≠ 0 by decide)
  have h2 := Int.emod_lt_of_pos (e + 1000000) (show (0 : Int) < 2 * 1000000 + 1 by decide)
  exact hk _ (by omega) (by omega)

theorem spast_cases {m lb : Int} : (m = 1 → spast m lb = 0) ∧ (2 ≤ m → m ≤ 7 → spast m lb = 30 + lb + (m - 2) * 31) ∧ (8 ≤ m → spast m lb = 30 + lb + 155 + (m - 7) * 30) := by
  unfold spast
  refine ⟨fun h => by rw [if_pos h], fun h1 h2 => by rw [if_neg (by omega), if_pos h2], fun h => by rw [if_neg (by omega), if_neg (by omega)]⟩
theorem c_itgS (w : World) (loose : List Str) (mean : ExcName → Option Value) (mg mb : Str → Option Value) (ty tm td : Tok) {Y m r lb G M D lG yd lY d : Int} (sd : SDue Y m r lb G M D lG yd lY) (hlb : LBm (leapB (Y + 78)) lb) (hY : Y.natAbs < 2 ^ 21) (hm : 1 ≤ m) (hm2 : m ≤ 12) (hr0 : 0 ≤ r) (hr : r < 31) (hd : d = r + 1) :
   Cl 5 w loose mean mg mb 99 [.int Y ty, .int m tm, .int d td] (RetT3 G M D) := by
  subst hd
  obtain ⟨s1, s2, s3⟩ := spast_cases (m := m) (lb := lb)
  have h := sd.2.2.2.2.2.2.2.1
  exact c_itg w loose mean mg mb Y m (r + 1) lb ty tm td sd.1 hlb (by omega) hm hm2 (by omega) (by omega) (fun e => by rw [h, s1 e]; omega) (fun e1 e2 => by rw [h, s2 e1 e2]) (fun e => by rw [h, s3 e])
theorem c_ifgS (w : World) (loose : List Str) (mean : ExcName → Option Value) (mg mb : Str → Option Value) (tG tM tD : Tok) {Y m r lb G M D lG yd lY : Int} (sd : SDue Y m r lb G M D lG yd lY) :
   Cl 6 w loose mean mg mb 92 [.int G tG, .int M tM, .int D tD] (RetT3 Y m (r + 1)) := by
  obtain ⟨gd, hl, hy, h0, h1, _, _, _, hi, _, _⟩ := sd
  exact c_ifg w loose mean mg mb Y m (r + 1) yd lG tG tM tD gd hl hy h0 h1 hi.1 hi.2.1 hi.2.2.1 hi.2.2.2
theorem c_ifgL (w : World) (loose : List Str) (mean : ExcName → Option Value) (mg mb : Str → Option Value) (tG tM tD : Tok) {Y m ℓ G M D lG yd : Int} (sl : SLast Y m ℓ G M D lG yd) :
   Cl 6 w loose mean mg mb 92 [.int G tG, .int M tM, .int D tD] (RetT3 Y m ℓ) := by
  obtain ⟨gd, hl, hy, h0, h1, hi⟩ := sl
  exact c_ifg w loose mean mg mb Y m ℓ yd lG tG tM tD gd hl hy h0 h1 hi.1 hi.2.1 hi.2.2.1 hi.2.2.2
theorem sM_range {m : Int} (hm : 1 ≤ m) (hm2 : m ≤ 12) : 1 ≤ sM m ∧ sM m ≤ 12 := by
  unfold sM; rcases months hm hm2 with rfl | rfl | rfl | rfl | rfl | rfl | rfl | rfl | rfl | rfl | rfl | rfl <;> decide
theorem sD_12 {m lb lb2 : Int} (hm : 1 ≤ m) (hm2 : m ≤ 12) : sD m lb lb2 = sD m lb 0 := by
  rcases months hm hm2 with rfl | rfl | rfl | rfl | rfl | rfl | rfl | rfl | rfl | rfl | rfl | rfl <;> simp [sD]
theorem c_onS (w : World) (loose : List Str) (mean : ExcName → Option Value) (mg mb : Str → Option Value) (k lb2 : Int) (Dt : Addr) (c : Nat) (tk tr ty tm td : Tok) {Y m r lb G M D lG yd lY : Int} (hk : k = 0) (sd : SDue Y m r lb G M D lG yd lY) (hm : 1 ≤ m) (hm2 : m ≤ 12) :
   ClM 2 w loose mean mg mb (fun news => (Dt, ({ cls := .type "tuple", data := .seq #[.int (sY Y m) ty, .int (sM m) tm, .int (sD m lb lb2) td] c } : Obj)) ∈ news) 226 [.int k tk, .ref Dt, .int r tr] (RetT3 G M D) := by
  obtain ⟨_, _, _, _, _, hlY, hon, _⟩ := sd
  obtain ⟨r1, r2⟩ := sM_range hm hm2
  rw [sD_12 hm hm2]
  exact c_on w loose mean mg mb k (sY Y m) (sM m) (sD m lb 0) r lY G M D _ Dt c tk tr ty tm td hlY (fun t u => c_long0 w loose mean mg mb k _ t u hk) r1 r2 hon.1 hon.2.1 hon.2.2
theorem c_ofgS (w : World) (loose : List Str) (mean : ExcName → Option Value) (mg mb : Str → Option Value) (tG tM tD : Tok) {Y m r lb G M D lG yd lY : Int} (sd : SDue Y m r lb G M D lG yd lY) :
   Cl 2 w loose mean mg mb 184 [.int G tG, .int M tM, .int D tD] (RetT2 G (yd + 1)) := c_ofg w loose mean mg mb yd lG tG tM tD sd.1 sd.2.1 sd.2.2.1
theorem c_otgS (w : World) (loose : List Str) (mean : ExcName → Option Value) (mg mb : Str → Option Value) (a p : Int) (ta tp : Tok) {Y m r lb G M D lG yd lY : Int} (sd : SDue Y m r lb G M D lG yd lY) (ha : a = G) (hp : p = yd + 1) :
   Cl 3 w loose mean mg mb 191 [.int a ta, .int p tp] (RetT3 G M D) := by
  subst ha; exact c_otg w loose mean mg mb p yd lG ta tp sd.1 sd.2.1 sd.2.2.1 hp
def M4 (y k la : Int) : Prop := (y % 4 = k → la = 1) ∧ (¬ y % 4 = k → la = 0)
theorem M4.ex (y k : Int) : ∃ la, M4 y k la ∧ 0 ≤ la ∧ la ≤ 1 := by
  by_cases h : y % 4 = k
  · exact ⟨1, ⟨fun _ => rfl, fun x => absurd h x⟩, by omega, by omega⟩
  · exact ⟨0, ⟨fun x => absurd x h, fun _ => rfl⟩, by omega, by omega⟩
theorem c_begin1M (w : World) (loose : List Str) (mean : ExcName → Option Value) (mg mb : Str → Option Value) (k y m la la2 : Int) (tk ty tm : Tok) (hk : k = 1) (hm : 1 ≤ m) (hm2 : m ≤ 14) (hla : M4 y 0 la) (hla2 : M4 (y + 1) 0 la2) :
   Cl 3 w loose mean mg mb 219 [.int k tk, .int y ty, .int m tm] (RetT3 (cY y m) (cM m) (cD m la la2)) := c_begin1 w loose mean mg mb k y m la la2 tk ty tm hk hm hm2 hla hla2
theorem x_ite_l6 {prog : Program} {w : World} {A : Around} {E : Value → Shared → Prop} {s : Shared} {env : Env} {y l6 : Int} {k k' : Nat} {pos pos' : Pos} {Q : Value → Shared → Prop} (hl : M4 y 3 l6) (h : Q (.int (5 + l6) s.toks) { s with toks := s.toks + 1 }) :
    if (y % 4 == 3) = true then wpAny (model prog w) A (eval (.Constant (.int 6) k pos) env) Q E s else wpAny (model prog w) A (eval (.Constant (.int 5) k' pos') env) Q E s :=
  x_ite_constP (fun e => hl.1 (by simpa using e)) (fun e => hl.2 (by simpa using e)) (by decide) h
def CSt (Y m r la G M D lY A B C : Int) : Prop := CDue Y m r la G M D lY ∧ GDt A B C ∧ gj A B C = cj Y m (r + 1)
def CLs (Y m ℓ G M D A B C : Int) : Prop := CLast Y m ℓ G M D ∧ GDt A B C ∧ gj A B C = cj Y m ℓ
theorem cM_range {m : Int} (hm : 1 ≤ m) (hm2 : m ≤ 13) : 1 ≤ cM m ∧ cM m ≤ 12 := by
  unfold cM; rcases months13 hm hm2 with rfl | rfl | rfl | rfl | rfl | rfl | rfl | rfl | rfl | rfl | rfl | rfl | rfl <;> decide
theorem cD_13 {m la la2 : Int} (hm : 1 ≤ m) (hm2 : m ≤ 13) : cD m la la2 = cD m la 0 := by
  rcases months13 hm hm2 with rfl | rfl | rfl | rfl | rfl | rfl | rfl | rfl | rfl | rfl | rfl | rfl | rfl <;> simp [cD]
theorem c_onT (w : World) (loose : List Str) (mean : ExcName → Option Value) (mg mb : Str → Option Value) (k la2 : Int) (Dt : Addr) (c : Nat) (tk tr ty tm td : Tok) {Y m r la G M D lY A B C : Int} (hk : k = 1) (sd : CSt Y m r la G M D lY A B C) (hm : 1 ≤ m) (hm2 : m ≤ 13) :
   ClM 2 w loose mean mg mb (fun news => (Dt, ({ cls := .type "tuple", data := .seq #[.int (cY Y m) ty, .int (cM m) tm, .int (cD m la la2) td] c } : Obj)) ∈ news) 226 [.int k tk, .ref Dt, .int r tr] (RetT3 G M D) := by
  obtain ⟨⟨_, hlY, hon, _, _⟩, _, _⟩ := sd
  obtain ⟨r1, r2⟩ := cM_range hm hm2
  rw [cD_13 hm hm2]
  exact c_on w loose mean mg mb k (cY Y m) (cM m) (cD m la 0) r lY G M D _ Dt c tk tr ty tm td hlY (fun t u => c_long1 w loose mean mg mb k _ t u hk) r1 r2 hon.1 hon.2.1 hon.2.2
theorem c_ctgS (w : World) (loose : List Str) (mean : ExcName → Option Value) (mg mb : Str → Option Value) (ty tm td : Tok) {Y m r la G M D lY A B C d : Int} (sd : CSt Y m r la G M D lY A B C) (hd : d = r + 1) :
   Cl 5 w loose mean mg mb 120 [.int Y ty, .int m tm, .int d td] (RetT3 A B C) := by
  subst hd
  obtain ⟨⟨_, _, _, _, cd⟩, gd, hg⟩ := sd
  exact c_ctg w loose mean mg mb Y m (r + 1) ty tm td cd gd hg
theorem c_jfgS (w : World) (loose : List Str) (mean : ExcName → Option Value) (mg mb : Str → Option Value) (tA tB tC : Tok) {Y m r la G M D lY A B C : Int} (sd : CSt Y m r la G M D lY A B C) :
   Cl 4 w loose mean mg mb 170 [.int A tA, .int B tB, .int C tC] (RetT3 G M D) := by
  obtain ⟨⟨jd, _, _, hj, _⟩, gd, hg⟩ := sd
  exact c_jfg w loose mean mg mb G M D tA tB tC jd gd (by rw [hg, hj])
theorem c_jtgS (w : World) (loose : List Str) (mean : ExcName → Option Value) (mg mb : Str → Option Value) (tG tM tD : Tok) {Y m r la G M D lY A B C : Int} (sd : CSt Y m r la G M D lY A B C) :
   Cl 5 w loose mean mg mb 177 [.int G tG, .int M tM, .int D tD] (RetT3 A B C) := by
  obtain ⟨⟨jd, _, _, hj, _⟩, gd, hg⟩ := sd
  exact c_jtg w loose mean mg mb G M D tG tM tD jd gd (by rw [hg, hj])
theorem c_jtgL (w : World) (loose : List Str) (mean : ExcName → Option Value) (mg mb : Str → Option Value) (tG tM tD : Tok) {Y m ℓ G M D A B C : Int} (sl : CLs Y m ℓ G M D A B C) :
   Cl 5 w loose mean mg mb 177 [.int G tG, .int M tM, .int D tD] (RetT3 A B C) := by
  obtain ⟨⟨jd, hj, _⟩, gd, hg⟩ := sl
  exact c_jtg w loose mean mg mb G M D tG tM tD jd gd (by rw [hg, hj])
theorem c_cfgS (w : World) (loose : List Str) (mean : ExcName → Option Value) (mg mb : Str → Option Value) (tA tB tC : Tok) {Y m r la G M D lY A B C : Int} (sd : CSt Y m r la G M D lY A B C) :
   Cl 4 w loose mean mg mb 127 [.int A tA, .int B tB, .int C tC] (RetT3 Y m (r + 1)) := by
  obtain ⟨⟨_, _, _, _, cd⟩, gd, hg⟩ := sd
  exact c_cfg w loose mean mg mb Y m (r + 1) tA tB tC cd gd hg
theorem c_cfgL (w : World) (loose : List Str) (mean : ExcName → Option Value) (mg mb : Str → Option Value) (tA tB tC : Tok) {Y m ℓ G M D A B C : Int} (sl : CLs Y m ℓ G M D A B C) :
   Cl 4 w loose mean mg mb 127 [.int A tA, .int B tB, .int C tC] (RetT3 Y m ℓ) := by
  obtain ⟨⟨_, _, cd⟩, gd, hg⟩ := sl
  exact c_cfg w loose mean mg mb Y m ℓ tA tB tC cd gd hg
theorem cst_ex {Y m r la l6 : Int} (hla : M4 Y 0 la) (hl6 : M4 Y 3 l6) (h60 : 0 ≤ l6) (h61 : l6 ≤ 1) (hY : Y.natAbs < 1002000) (hm : 1 ≤ m) (hm2 : m ≤ 13) (hr0 : 0 ≤ r) (hr : r < clen m l6) : ∃ G M D lY A B C, CSt Y m r la G M D lY A B C := by
  obtain ⟨G, M, D, lY, cd⟩ := cop_due hla hl6 hY hm hm2 hr0 hr
  have h30 : clen m l6 ≤ 30 := by
    unfold clen; split <;> omega
  obtain ⟨A, B, C, gd, hg⟩ := greg_ex (cj Y m (r + 1)) (by rw [cj_def]; omega)
  exact ⟨G, M, D, lY, A, B, C, cd, gd, hg⟩
theorem cls_ex {Y m la la2 l6 : Int} (hla : M4 Y 0 la) (hla2 : M4 (Y + 1) 0 la2) (hl6 : M4 Y 3 l6) (h60 : 0 ≤ l6) (h61 : l6 ≤ 1) (hY : Y.natAbs < 1002000) (hm : 1 ≤ m) (hm2 : m ≤ 13) : ∃ A B C, CLs Y m (clen m l6) (cY Y (m + 1)) (cM (m + 1)) (cD (m + 1) la la2 - 1) A B C := by
  have h30 : 5 ≤ clen m l6 ∧ clen m l6 ≤ 30 := by
    unfold clen; split <;> omega
  obtain ⟨A, B, C, gd, hg⟩ := greg_ex (cj Y m (clen m l6)) (by rw [cj_def]; omega)
  exact ⟨A, B, C, cop_last hla hla2 hl6 hY hm hm2, gd, hg⟩
theorem st_close {pre : List Int} {k lb : Int} (h : k = 1 + (pre.length : Int)) (h0 : 1 ≤ k) (h1 : k ≤ 12) : spast k lb + slen k lb = spast (1 + ((pre ++ [k]).length : Int)) lb := by
  rw [spast_next h0 h1]
  congr 1
  simp
  omega
local macro_rules | `(tactic| walk_at "call ref") => `(tactic| (k_here; (with_reducible show wpAny _ _ (call (Value.ref 219) _) _ _ _); (with_reducible rename CSt _ _ _ _ _ _ _ _ _ _ _ => sd9); k_dflt (refine' cl_use (c_begin1M _ _ _ _ _ _ _ _ _ _ _ _ _ ?p1 ?p2 ?p3 ?q1 ?q2) ?k1 ?k2 ?k3 ?k4 ?k5 ?kK ?kd ?ku ?_; (case p1 => omega); (case p2 => omega); (case p3 => omega); (case q1 => with_reducible assumption); (case q2 => with_reducible assumption); walk_at "my call"); intro D9 t9 u9 v9 c9 h9 tk9 F9 N9 l9; (try simp only [AllLt, and_true] at l9); (try dsimp only); (try k_fold)))
local macro_rules | `(tactic| walk_at "call ref") => `(tactic| (k_here; (with_reducible show wpAny _ _ (call (Value.ref 226) _) _ _ _); (with_reducible rename CSt _ _ _ _ _ _ _ _ _ _ _ => sd9); k_dflt (refine' clm_use (c_onT _ _ _ _ _ _ _ _ _ _ _ _ _ _ ?p1 sd9 ?p2 ?p3) ?kR ?k1 ?k2 ?k3 ?k4 ?k5 ?kK ?kd ?ku ?_; (case k4 => k_asm); (case kR => ((try dsimp only); k_mem)); (case p1 => omega); (case p2 => omega); (case p3 => omega); (case k1 => k_asm); (case k2 => k_asm); (case k3 => k_asm); (case k5 => k_asm); (case kK => first | exact rfl | assumption); (case kd => ktr_room); (case ku => ktr_units)); intro D9 t9 u9 v9 c9 h9 tk9 F9 N9 l9; (try simp only [AllLt, and_true] at l9); (try dsimp only); (try k_fold)))
local macro_rules | `(tactic| walk_at "call ref") => `(tactic| (k_here; (with_reducible show wpAny _ _ (call (Value.ref 120) _) _ _ _); (with_reducible rename CSt _ _ _ _ _ _ _ _ _ _ _ => sd9); k_dflt (refine' cl_use (c_ctgS _ _ _ _ _ _ _ _ sd9 ?p1) ?k1 ?k2 ?k3 ?k4 ?k5 ?kK ?kd ?ku ?_; (case p1 => omega); walk_at "my call"); intro D9 t9 u9 v9 c9 h9 tk9 F9 N9 l9; (try simp only [AllLt, and_true] at l9); (try dsimp only); (try k_fold)))
local macro_rules | `(tactic| walk_at "call ref") => `(tactic| (k_here; (with_reducible show wpAny _ _ (call (Value.ref 170) _) _ _ _); (with_reducible rename CSt _ _ _ _ _ _ _ _ _ _ _ => sd9); k_dflt (refine' cl_use (c_jfgS _ _ _ _ _ _ _ _ sd9) ?k1 ?k2 ?k3 ?k4 ?k5 ?kK ?kd ?ku ?_; walk_at "my call"); intro D9 t9 u9 v9 c9 h9 tk9 F9 N9 l9; (try simp only [AllLt, and_true] at l9); (try dsimp only); (try k_fold)))
local macro_rules | `(tactic| walk_at "call ref") => `(tactic| (k_here; (with_reducible show wpAny _ _ (call (Value.ref 177) _) _ _ _); (with_reducible rename CSt _ _ _ _ _ _ _ _ _ _ _ => sd9); (with_reducible rename CLs _ _ _ _ _ _ _ _ _ => sl9); k_dflt ((first | refine' cl_use (c_jtgS _ _ _ _ _ _ _ _ sd9) ?k1 ?k2 ?k3 ?k4 ?k5 ?kK ?kd ?ku ?_ | refine' cl_use (c_jtgL _ _ _ _ _ _ _ _ sl9) ?k1 ?k2 ?k3 ?k4 ?k5 ?kK ?kd ?ku ?_); walk_at "my call"); intro D9 t9 u9 v9 c9 h9 tk9 F9 N9 l9; (try simp only [AllLt, and_true] at l9); (try dsimp only); (try k_fold)))
local macro_rules | `(tactic| walk_at "call ref") => `(tactic| (k_here; (with_reducible show wpAny _ _ (call (Value.ref 127) _) _ _ _); (with_reducible rename CSt _ _ _ _ _ _ _ _ _ _ _ => sd9); (with_reducible rename CLs _ _ _ _ _ _ _ _ _ => sl9); k_dflt ((first | refine' cl_use (c_cfgS _ _ _ _ _ _ _ _ sd9) ?k1 ?k2 ?k3 ?k4 ?k5 ?kK ?kd ?ku ?_ | refine' cl_use (c_cfgL _ _ _ _ _ _ _ _ sl9) ?k1 ?k2 ?k3 ?k4 ?k5 ?kK ?kd ?ku ?_); walk_at "my call"); intro D9 t9 u9 v9 c9 h9 tk9 F9 N9 l9; (try simp only [AllLt, and_true] at l9); (try dsimp only); (try k_fold)))
local macro_rules | `(tactic| walk_at "ite") => `(tactic| (k_here; (with_reducible refine' x_ite_l6 ?hb ?_); (case hb => with_reducible assumption); (try dsimp only)))
local macro_rules | `(tactic| walk_at "ite") => `(tactic| (k_here; (with_reducible rename Prn => pr9); (with_reducible show ite ((!(_ && _)) = true) _ _); k_dflt (refine ite_neg (by simp only [beq_iff_eq, Bool.not_eq_true', Bool.and_eq_true, Bool.not_eq_false]; omega) ?_)))
local macro_rules | `(tactic| walk_at "call ref") => `(tactic| (k_here; (with_reducible show wpAny _ _ (call (Value.ref 219) [Value.int _ _, Value.int _ _, Value.int _ _]) _ _ _); k_dflt (refine' cl_use (c_begin0 _ _ _ _ _ _ _ _ _ _ _ _ _ ?p1 ?p2 ?p3 ?q1 ?q2) ?k1 ?k2 ?k3 ?k4 ?k5 ?kK ?kd ?ku ?_; (case p1 => omega); (case p2 => omega); (case p3 => omega); (case q1 => with_reducible assumption); (case q2 => with_reducible assumption); walk_at "my call"); intro D9 t9 u9 v9 c9 h9 tk9 F9 N9 l9; (try simp only [AllLt, and_true] at l9); (try dsimp only); (try k_fold)))
local macro_rules | `(tactic| walk_at "call ref") => `(tactic| (k_here; (with_reducible show wpAny _ _ (call (Value.ref 226) _) _ _ _); (with_reducible rename SDue _ _ _ _ _ _ _ _ _ _ => sd9); k_dflt (refine' clm_use (c_onS _ _ _ _ _ _ _ _ _ _ _ _ _ _ ?p1 sd9 ?p2 ?p3) ?kR ?k1 ?k2 ?k3 ?k4 ?k5 ?kK ?kd ?ku ?_; (case k4 => k_asm); (case kR => ((try dsimp only); k_mem)); (case p1 => omega); (case p2 => omega); (case p3 => omega); (case k1 => k_asm); (case k2 => k_asm); (case k3 => k_asm); (case k5 => k_asm); (case kK => first | exact rfl | assumption); (case kd => ktr_room); (case ku => ktr_units)); intro D9 t9 u9 v9 c9 h9 tk9 F9 N9 l9; (try simp only [AllLt, and_true] at l9); (try dsimp only); (try k_fold)))
local macro_rules | `(tactic| walk_at "call ref") => `(tactic| (k_here; (with_reducible show wpAny _ _ (call (Value.ref 99) _) _ _ _); (with_reducible rename SDue _ _ _ _ _ _ _ _ _ _ => sd9); k_dflt (refine' cl_use (c_itgS _ _ _ _ _ _ _ _ sd9 ?q1 ?p1 ?p2 ?p3 ?p4 ?p5 ?p6) ?k1 ?k2 ?k3 ?k4 ?k5 ?kK ?kd ?ku ?_; (case q1 => with_reducible assumption); (case p1 => omega); (case p2 => omega); (case p3 => omega); (case p4 => omega); (case p5 => omega); (case p6 => omega); walk_at "my call"); intro D9 t9 u9 v9 c9 h9 tk9 F9 N9 l9; (try simp only [AllLt, and_true] at l9); (try dsimp only); (try k_fold)))
local macro_rules | `(tactic| walk_at "call ref") => `(tactic| (k_here; (with_reducible show wpAny _ _ (call (Value.ref 92) _) _ _ _); (with_reducible rename SDue _ _ _ _ _ _ _ _ _ _ => sd9); (with_reducible rename SLast _ _ _ _ _ _ _ _ => sl9); k_dflt ((first | refine' cl_use (c_ifgS _ _ _ _ _ _ _ _ sd9) ?k1 ?k2 ?k3 ?k4 ?k5 ?kK ?kd ?ku ?_ | refine' cl_use (c_ifgL _ _ _ _ _ _ _ _ sl9) ?k1 ?k2 ?k3 ?k4 ?k5 ?kK ?kd ?ku ?_); walk_at "my call"); intro D9 t9 u9 v9 c9 h9 tk9 F9 N9 l9; (try simp only [AllLt, and_true] at l9); (try dsimp only); (try k_fold)))
local macro_rules | `(tactic| walk_at "call ref") => `(tactic| (k_here; (with_reducible show wpAny _ _ (call (Value.ref 184) _) _ _ _); (with_reducible rename SDue _ _ _ _ _ _ _ _ _ _ => sd9); k_dflt (refine' cl_use (c_ofgS _ _ _ _ _ _ _ _ sd9) ?k1 ?k2 ?k3 ?k4 ?k5 ?kK ?kd ?ku ?_; walk_at "my call"); intro D9 t9 u9 c9 h9 tk9 F9 N9 l9; (try simp only [AllLt, and_true] at l9); (try dsimp only); (try k_fold)))
local macro_rules | `(tactic| walk_at "call ref") => `(tactic| (k_here; (with_reducible show wpAny _ _ (call (Value.ref 191) _) _ _ _); (with_reducible rename SDue _ _ _ _ _ _ _ _ _ _ => sd9); k_dflt (refine' cl_use (c_otgS _ _ _ _ _ _ _ _ _ sd9 ?p1 ?p2) ?k1 ?k2 ?k3 ?k4 ?k5 ?kK ?kd ?ku ?_; (case p1 => omega); (case p2 => omega); walk_at "my call"); intro D9 t9 u9 v9 c9 h9 tk9 F9 N9 l9; (try simp only [AllLt, and_true] at l9); (try dsimp only); (try k_fold)))
local macro_rules | `(tactic| walk_at "subscriptTail Name Constant ref int") => `(tactic| (k_here; (with_reducible show wpAny _ _ (subscriptTail _ _ (Value.ref _) (Value.int _ _)) _ _ _); k_dflt (refine' item_tupleT ?t ?a ?b ?c ?d ?_; (case t => exact News.isTup (by k_asm) (by k_mem)); (case a => decide); (case b => decide); (case c => exact rfl); (case d => exact rfl); k_whole)))
theorem fin : PySem.Challenge.rw_ad5028_01.Holds := Mine.hd (by w_on; w_strict (
  k_go0
  (all_goals try k_fold)
  repeat' (first | (k_unfold; (try dsimp only)) | (k_end; wrow_close) | ((fail_if_success (with_reducible show wpAny _ _ (storeName _ (Str.ofString "year") _) _ _ _)); walk1) | ((fail_if_success (with_reducible show wpAny _ _ (storeName _ (Str.ofString "year") _) _ _ _)); (dsimp only; walk1)) | (leave1; walk_say "STEP leave1"; try dsimp only) | fail "no step")
  rotate_left
  · refine x_store_year ?_
    intro Y hY0 hY1
    obtain ⟨la, hla, ha0, ha1⟩ := M4.ex Y 0
    obtain ⟨la2, hla2, hb0, hb1⟩ := M4.ex (Y + 1) 0
    obtain ⟨l6, hl6, h60, h61⟩ := M4.ex Y 3
    walk1
    repeat' (first | (k_unfold; (try dsimp only)) | (k_end; wrow_close) | ((fail_if_success (with_reducible show wpAny _ _ (pyIter _) _ _ _)); walk1) | ((fail_if_success (with_reducible show wpAny _ _ (pyIter _) _ _ _)); (dsimp only; walk1)) | (leave1; walk_say "STEP leave1"; try dsimp only) | fail "no step")
    k_state (fun (_ : List Int) (_ : Int) => True) "past"
    repeat' (first | (k_unfold; (try dsimp only)) | (k_end; wrow_close) | ((fail_if_success (with_reducible show wpAny _ _ (storeName _ (Str.ofString "length") _) _ _ _)); walk1) | ((fail_if_success (with_reducible show wpAny _ _ (storeName _ (Str.ofString "length") _) _ _ _)); (dsimp only; walk1)) | (leave1; walk_say "STEP leave1"; try dsimp only) | fail "no step")
    have kN1 : 1 ≤ kN := by omega
    have kN2 : kN ≤ 13 := by omega
    have hℓ0 : 0 < clen kN l6 := by unfold clen; split <;> omega
    have hℓ1 : clen kN l6 ≤ 30 := by unfold clen; split <;> omega
    refine x_storeG (fun v => v = clen kN l6) (clen_getD kN1 kN2) ?_
    intro ℓ hℓ
    subst hℓ
    walk1
    repeat' (first | (k_unfold; (try dsimp only)) | (k_end; wrow_close) | ((fail_if_success (with_reducible show wpAny _ _ (storeName _ (Str.ofString "drawn") _) _ _ _)); walk1) | ((fail_if_success (with_reducible show wpAny _ _ (storeName _ (Str.ofString "drawn") _) _ _ _)); (dsimp only; walk1)) | (leave1; walk_say "STEP leave1"; try dsimp only) | fail "no step")
    refine x_storeG (fun v => 0 ≤ v ∧ v < clen kN l6) ⟨Int.emod_nonneg _ (by omega), Int.emod_lt_of_pos _ hℓ0⟩ ?_
    intro r hr
    obtain ⟨hr0, hr1⟩ := hr
    obtain ⟨G, M, D, lY, A9, B9, C9, sd⟩ := cst_ex hla hl6 h60 h61 (by omega) kN1 kN2 hr0 hr1
    obtain ⟨A8, B8, C8, sl⟩ := cls_ex hla hla2 hl6 h60 h61 (by omega) kN1 kN2
    have pr := Prn.mk
    k_with "state" => trivial
    walk1
    k_steps
  · refine x_store_year ?_
    intro Y hY0 hY1
    obtain ⟨lb, hlb, hb0, hb1⟩ := LBm.ex (leapB (Y + 78))
    obtain ⟨lb2, hlb2, hb2, hb3⟩ := LBm.ex (leapB (Y + 79))
    walk1
    repeat' (first | (k_unfold; (try dsimp only)) | (k_end; wrow_close) | ((fail_if_success (with_reducible show wpAny _ _ (pyIter _) _ _ _)); walk1) | ((fail_if_success (with_reducible show wpAny _ _ (pyIter _) _ _ _)); (dsimp only; walk1)) | (leave1; walk_say "STEP leave1"; try dsimp only) | fail "no step")
    k_state (fun pre past => past = spast (1 + (pre.length : Int)) lb) "past"
    repeat' (first | (k_unfold; (try dsimp only)) | (k_end; wrow_close) | ((fail_if_success (with_reducible show wpAny _ _ (storeName _ (Str.ofString "length") _) _ _ _)); walk1) | ((fail_if_success (with_reducible show wpAny _ _ (storeName _ (Str.ofString "length") _) _ _ _)); (dsimp only; walk1)) | (leave1; walk_say "STEP leave1"; try dsimp only) | fail "no step")
    have kN1 : 1 ≤ kN := by omega
    have kN2 : kN ≤ 12 := by omega
    rw [← kEq] at kInv
    subst kInv
    have hℓ0 : 0 < slen kN lb := by unfold slen; split <;> (try split) <;> omega
    have hℓ1 : slen kN lb ≤ 31 := by unfold slen; split <;> (try split) <;> omega
    refine x_storeG (fun v => v = slen kN lb) (slen_getD kN1 kN2) ?_
    intro ℓ hℓ
    subst hℓ
    walk1
    repeat' (first | (k_unfold; (try dsimp only)) | (k_end; wrow_close) | ((fail_if_success (with_reducible show wpAny _ _ (storeName _ (Str.ofString "drawn") _) _ _ _)); walk1) | ((fail_if_success (with_reducible show wpAny _ _ (storeName _ (Str.ofString "drawn") _) _ _ _)); (dsimp only; walk1)) | (leave1; walk_say "STEP leave1"; try dsimp only) | fail "no step")
    refine x_storeG (fun v => 0 ≤ v ∧ v < slen kN lb) ⟨Int.emod_nonneg _ (by omega), Int.emod_lt_of_pos _ hℓ0⟩ ?_
    intro r hr
    obtain ⟨hr0, hr1⟩ := hr
    obtain ⟨G, M, D, lG, yd, lY, sd⟩ := saka_due hlb hlb2 (by omega) kN1 kN2 hr0 hr1
    obtain ⟨lL, yL, sl⟩ := saka_last hlb hlb2 (by omega) kN1 kN2
    have hpl := sd.2.2.2.2.2.2.2.2.2
    obtain ⟨hpl1, hpl2⟩ := hpl
    have pr := Prn.mk
    k_with "state" => exact st_close kEq kN1 kN2
    walk1
    k_steps))
end
local macro_rules | `(tactic| walk_at "no such key") => `(tactic| fail)
local macro_rules | `(tactic| walk_at "no such key") => `(tactic| fail)
local macro_rules | `(tactic| walk_at "no such key") => `(tactic| fail)
local macro_rules | `(tactic| walk_at "no such key") => `(tactic| fail)
local macro_rules | `(tactic| walk_at "no such key") => `(tactic| fail)
local macro_rules | `(tactic| walk_at "no such key") => `(tactic| fail)
local macro_rules | `(tactic| walk_at "no such key") => `(tactic| fail)
local macro_rules | `(tactic| walk_at "no such key") => `(tactic| fail)
local macro_rules | `(tactic| walk_at "no such key") => `(tactic| fail)
local macro_rules | `(tactic| walk_at "no such key") => `(tactic| fail)
local macro_rules | `(tactic| walk_at "no such key") => `(tactic| fail)
local macro_rules | `(tactic| walk_at "no such key") => `(tactic| fail)
local macro_rules | `(tactic| walk_at "no such key") => `(tactic| fail)
local macro_rules | `(tactic| walk_at "no such key") => `(tactic| fail)
local macro_rules | `(tactic| walk_at "no such key") => `(tactic| fail)
local macro_rules | `(tactic| walk_at "no such key") => `(tactic| fail)
end Mine
theorem PySem.Challenge.cw_ad5028_01_holds : PySem.Challenge.rw_ad5028_01.Holds := by
  exact Mine.fin
