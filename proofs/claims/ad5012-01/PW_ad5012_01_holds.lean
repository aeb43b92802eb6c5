import PyProof.Rows.All
import Wide.All
import OpenK.AllK
import Wide.FinOn
import PySem.Challenge.RW_ad5012_01
open PySem PySem.W PyProof.Rows
set_option Elab.async false
set_option maxRecDepth 100000
set_option maxHeartbeats 8000000
namespace Mine
open_top hd for PySem.Challenge.rw_ad5012_01
end Mine
section
namespace Mine
open PySem.Float64
theorem V_inj {a b : Nat} (h : V a = V b) : a = b := by
  rcases Nat.lt_trichotomy a b with q | q | q
  · have := V_lt q; omega
  · exact q
  · have := V_lt q; omega
theorem rep : ∀ (k q : Nat), q < 2 ^ 53 → k ≤ 1500 → ∃ t, t ≤ k * 2 ^ 52 + q ∧ t < infMag ∧ V t = q * 2 ^ k
  | 0, q, h, _ => ⟨q, by omega, by unfold infMag; omega, by have := V_at (k := 0) (q := q) (by omega) (.inr rfl); simpa using this⟩
  | k + 1, q, h, hk => by
    by_cases hq : 2 ^ 52 ≤ q
    · exact ⟨(k + 1) * 2 ^ 52 + q, by omega, by unfold infMag; omega, V_at (by omega) (.inl hq)⟩
    · obtain ⟨t, h1, h2, h3⟩ := rep k (2 * q) (by omega) (by omega)
      refine ⟨t, by rw [Nat.add_mul, Nat.one_mul]; clear h2 h3; generalize k * 2 ^ 52 = A at *; generalize 2 ^ 52 = P at *; omega, h2, ?_⟩
      rw [h3, Nat.pow_succ]
      ac_rfl
theorem right_exact {r : UInt64} {neg : Bool} {W D t₀ : Nat} (h : Right r neg W D) (hD : 0 < D) (ht : t₀ < infMag) (e : D * V t₀ = W) : r = pack neg t₀ := by
  obtain ⟨t, rfl, h1, h2, h3⟩ := h
  have hlt : t < infMag := by
    rcases Nat.lt_or_ge t infMag with q | q
    · exact q
    · exfalso
      have ht' : t = infMag := by omega
      have := h2.mp ht'
      have hv : V t₀ ≤ V (infMag - 1) := V_mono (by omega)
      have hb : V (infMag - 1) = (2 ^ 53 - 1) * 2 ^ 2045 := by unfold V infMag; decide +kernel
      rw [hb] at hv
      have h4 : D * V t₀ ≤ D * ((2 ^ 53 - 1) * 2 ^ 2045) := Nat.mul_le_mul_left D hv
      rw [e] at h4
      have h5 : D * ((2 ^ 54 - 1) * 2 ^ 2045) ≤ 2 * (D * ((2 ^ 53 - 1) * 2 ^ 2045)) := Nat.le_trans this (Nat.mul_le_mul_left 2 h4)
      have h6 : 2 * (D * ((2 ^ 53 - 1) * 2 ^ 2045)) = D * (2 * ((2 ^ 53 - 1) * 2 ^ 2045)) := by ac_rfl
      rw [h6] at h5
      have h7 : (2 ^ 54 - 1) * 2 ^ 2045 ≤ 2 * ((2 ^ 53 - 1) * 2 ^ 2045) := Nat.le_of_mul_le_mul_left h5 hD
      revert h7
      decide +kernel
  have h4 := (h3 hlt t₀).1
  rw [e] at h4
  have h5 : dist W W = 0 := by unfold dist; omega
  rw [h5] at h4
  have h6 : W = D * V t := by unfold dist at h4; omega
  rw [← e] at h6
  have h7 := V_inj (Nat.eq_of_mul_eq_mul_left hD h6)
  rw [h7]
/-- n + 1/2 -/
def hf (n : Int) : UInt64 := ofFrac (decide (2 * n + 1 < 0)) (2 * n + 1).natAbs 2
theorem hf_pack {n : Int} (h : (2 * n + 1).natAbs < 2 ^ 53) : ∃ t, t < infMag ∧ V t = (2 * n + 1).natAbs * 2 ^ 1073 ∧ hf n = pack (decide (2 * n + 1 < 0)) t := by
  obtain ⟨t, _, h1, h2⟩ := rep 1073 (2 * n + 1).natAbs h (by decide)
  refine ⟨t, h1, h2, ?_⟩
  have hr : Right (hf n) (decide (2 * n + 1 < 0)) ((2 * n + 1).natAbs * 2 ^ 1074) 2 := ofFrac_right (by decide) rfl (by decide)
  refine right_exact hr (by decide) h1 ?_
  rw [h2, Nat.pow_succ _ 1073]
  ac_rfl
theorem int_pack {n : Int} (h : n.natAbs < 2 ^ 53) : ∃ t, t < infMag ∧ V t = n.natAbs * 2 ^ 1074 ∧ ofInt n = pack (decide (n < 0)) t := by
  obtain ⟨t, _, h1, h2⟩ := rep 1074 n.natAbs h (by decide)
  exact ⟨t, h1, h2, right_exact (ofInt_right n) (by decide) h1 (by rw [h2, Nat.one_mul])⟩
theorem sgn_abs (z : Int) : sgn (decide (z < 0)) z.natAbs = z := by unfold sgn; by_cases h : z < 0 <;> simp [h] <;> omega
theorem hf_val {n : Int} (h : (2 * n + 1).natAbs < 2 ^ 53) : ∃ m e, decode (hf n) = .fin (decide (2 * n + 1 < 0)) m e ∧ val (hf n) = (2 * n + 1) * ((2 ^ 1073 : Nat) : Int) := by
  obtain ⟨t, h1, h2, h3⟩ := hf_pack h
  rw [h3]
  obtain ⟨m, e, hd, _⟩ := decode_pack (decide (2 * n + 1 < 0)) h1
  refine ⟨m, e, hd, ?_⟩
  rw [val_pack _ h1, h2, sgn_mul, sgn_abs]
theorem int_val {n : Int} (h : n.natAbs < 2 ^ 53) : ∃ m e, decode (ofInt n) = .fin (decide (n < 0)) m e ∧ val (ofInt n) = n * ((2 ^ 1074 : Nat) : Int) := by
  obtain ⟨t, h1, h2, h3⟩ := int_pack h
  rw [h3]
  obtain ⟨m, e, hd, _⟩ := decode_pack (decide (n < 0)) h1
  refine ⟨m, e, hd, ?_⟩
  rw [val_pack _ h1, h2, sgn_mul, sgn_abs]
theorem pow_step : ((2 ^ 1074 : Nat) : Int) = 2 * ((2 ^ 1073 : Nat) : Int) := by rw [Nat.pow_succ]; omega
theorem pow_pos' : (0 : Int) < ((2 ^ 1073 : Nat) : Int) := Int.ofNat_lt.mpr (Nat.two_pow_pos _)
theorem mul_neg_iff {z K : Int} (hK : 0 < K) : z * K < 0 ↔ z < 0 := by
  constructor
  · intro h
    by_cases h2 : z < 0
    · exact h2
    · have := Int.mul_nonneg (show 0 ≤ z by omega) (Int.le_of_lt hK); omega
  · intro h; exact Int.mul_neg_of_neg_of_pos h hK
theorem hf_add {a n : Int} (h1 : (2 * a + 1).natAbs < 2 ^ 53) (h2 : n.natAbs < 2 ^ 53) (h3 : (2 * (a + n) + 1).natAbs < 2 ^ 53) : add (hf a) (ofInt n) = hf (a + n) := by
  obtain ⟨m, e, hd, hv⟩ := hf_val h1
  obtain ⟨m', e', hd', hv'⟩ := int_val h2
  obtain ⟨t, ht, hV, hp⟩ := hf_pack h3
  have hs : val (hf a) + val (ofInt n) = (2 * (a + n) + 1) * ((2 ^ 1073 : Nat) : Int) := by
    rw [hv, hv', pow_step, show n * (2 * ((2 ^ 1073 : Nat) : Int)) = (2 * n) * ((2 ^ 1073 : Nat) : Int) by rw [← Int.mul_assoc, Int.mul_comm n 2], ← Int.add_mul]
    congr 1
    omega
  have hne : val (hf a) + val (ofInt n) ≠ 0 := by
    rw [hs]
    intro q
    rcases Int.mul_eq_zero.mp q with q | q
    · omega
    · have := pow_pos'; omega
  have hr := (add_right hd hd').2 hne
  rw [hs] at hr
  have e1 : decide ((2 * (a + n) + 1) * ((2 ^ 1073 : Nat) : Int) < 0) = decide (2 * (a + n) + 1 < 0) := decide_eq_decide.mpr (mul_neg_iff pow_pos')
  rw [e1, Int.natAbs_mul, Int.natAbs_natCast] at hr
  rw [right_exact hr (by decide) ht (by rw [hV, Nat.one_mul]), hp]
theorem hf_fin {n : Int} (h : (2 * n + 1).natAbs < 2 ^ 53) : isFinite (hf n) = true := by
  obtain ⟨m, e, hd, _⟩ := hf_val h
  unfold isFinite; rw [hd]
theorem hf_eq {a b : Int} (h1 : (2 * a + 1).natAbs < 2 ^ 53) (h2 : (2 * b + 1).natAbs < 2 ^ 53) : (cmp (hf a) (hf b) == some .eq) = decide (a = b) := by
  obtain ⟨m, e, hd, hv⟩ := hf_val h1
  obtain ⟨m', e', hd', hv'⟩ := hf_val h2
  rw [cmp_right hd hd', hv, hv']
  by_cases hab : a = b
  · subst hab; simp
  · simp only [hab, decide_false]
    rcases Int.lt_or_gt_of_ne hab with q | q
    · rw [Int.compare_eq_lt.mpr (Int.mul_lt_mul_of_pos_right (by omega) pow_pos')]; decide
    · rw [Int.compare_eq_gt.mpr (Int.mul_lt_mul_of_pos_right (by omega) pow_pos')]; decide
end Mine
end
section
namespace Mine
open PySem.Float64 PySem.Flt
theorem nat_core {N d U Vt : Nat} (hd : 0 < d) (hd2 : d < 4096) (hU : 0 < U) (h : dist (N * (8192 * U)) (d * Vt) ≤ (N * 8192 % d) * U) :
    (N % d = 0 → Vt = N / d * (8192 * U)) ∧ (N % d ≠ 0 → N / d * (8192 * U) < Vt ∧ Vt < (N / d + 1) * (8192 * U)) := by
  have hN : N = d * (N / d) + N % d := (Nat.div_add_mod N d).symm
  have hr : N % d < d := Nat.mod_lt _ hd
  have hs : N * 8192 % d < d := Nat.mod_lt _ hd
  have e1 : N * (8192 * U) = d * (N / d * (8192 * U)) + 8192 * (N % d * U) := by
    conv => lhs; rw [hN]
    rw [Nat.add_mul]
    congr 1
    · ac_rfl
    · ac_rfl
  have e2 : d * ((N / d + 1) * (8192 * U)) = d * (N / d * (8192 * U)) + 8192 * (d * U) := by
    rw [Nat.add_mul, Nat.mul_add, Nat.one_mul]
    congr 1
    ac_rfl
  constructor
  · intro h0
    have h1 : N * 8192 % d = 0 := by rw [Nat.mul_mod, h0, Nat.zero_mul, Nat.zero_mod]
    rw [h1, Nat.zero_mul] at h
    rw [h0, Nat.zero_mul, Nat.mul_zero, Nat.add_zero] at e1
    rw [e1] at h
    refine Nat.eq_of_mul_eq_mul_left hd ?_
    unfold dist at h
    omega
  · intro h0
    have hr1 : U ≤ N % d * U := Nat.le_mul_of_pos_left U (by omega)
    have hr2 : N % d * U + U ≤ d * U := by rw [← Nat.succ_mul]; exact Nat.mul_le_mul_right U hr
    have hs2 : N * 8192 % d * U + U ≤ d * U := by rw [← Nat.succ_mul]; exact Nat.mul_le_mul_right U hs
    have hd3 : d * U ≤ 4095 * U := Nat.mul_le_mul_right U (by omega)
    constructor
    · refine Nat.lt_of_mul_lt_mul_left (a := d) ?_
      rw [e1] at h
      unfold dist at h
      omega
    · refine Nat.lt_of_mul_lt_mul_left (a := d) ?_
      rw [e2]
      rw [e1] at h
      unfold dist at h
      omega
theorem floorOf_val {neg : Bool} {m : Nat} {e : Int} (he : -1074 ≤ e) : floorOf neg m e = sgn neg (m * 2 ^ (e + 1074).toNat) / ((2 ^ 1074 : Nat) : Int) := by
  unfold floorOf
  have hp : (0 : Int) < ((2 ^ 1074 : Nat) : Int) := Int.ofNat_lt.mpr (Nat.two_pow_pos _)
  split
  · rename_i h
    have e1 : (e + 1074).toNat = e.toNat + 1074 := by omega
    rw [e1, Nat.pow_add, ← Nat.mul_assoc, sgn_mul, Int.mul_ediv_cancel _ (by omega), sgn_mul]
    simp
  · rename_i h
    have e1 : (1074 : Nat) = (-e).toNat + (e + 1074).toNat := by omega
    have e2 : ((2 ^ 1074 : Nat) : Int) = ((2 ^ (-e).toNat : Nat) : Int) * ((2 ^ (e + 1074).toNat : Nat) : Int) := by
      rw [← Int.natCast_mul, ← Nat.pow_add, ← e1]
    rw [sgn_mul, e2, Int.mul_ediv_mul_of_pos_left _ _ (Int.ofNat_lt.mpr (Nat.two_pow_pos _)), Int.fdiv_eq_ediv_of_nonneg _ (by exact Int.pow_nonneg (by decide))]
    simp
theorem floor_pack {neg : Bool} {t : Nat} (h : t < infMag) : toInt floorOf (pack neg t) = sgn neg (V t) / ((2 ^ 1074 : Nat) : Int) := by
  obtain ⟨m, e, hd, hv⟩ := decode_pack neg h
  rw [toInt_fin hd, floorOf_val (decode_ge hd), hv]
theorem div_of {x K q : Int} (hK : 0 < K) (h1 : q * K ≤ x) (h2 : x < (q + 1) * K) : x / K = q := by
  refine Int.le_antisymm ?_ ?_
  · have := (Int.ediv_lt_iff_lt_mul hK).mpr h2
    omega
  · exact (Int.le_ediv_iff_mul_le hK).mpr h1
theorem quot_pack {neg : Bool} {N d : Nat} (hd : 0 < d) (hN : N < 2 ^ 40) : ∃ t, t < infMag ∧ ofFrac neg N d = pack neg t ∧ dist (N * (8192 * 2 ^ 1061)) (d * V t) ≤ (N * 8192 % d) * 2 ^ 1061 := by
  have hr : Right (ofFrac neg N d) neg (N * 2 ^ 1074) d := ofFrac_right hd rfl hd
  obtain ⟨t, e, h1, h2, h3⟩ := hr
  have hK : (2 : Nat) ^ 1074 = 8192 * 2 ^ 1061 := by decide +kernel
  have hlt : t < infMag := by
    rcases Nat.lt_or_ge t infMag with q | q
    · exact q
    · exfalso
      have := h2.mp (by omega)
      have h4 : 1 * ((2 ^ 54 - 1) * 2 ^ 2045) ≤ d * ((2 ^ 54 - 1) * 2 ^ 2045) := Nat.mul_le_mul_right _ hd
      have h5 : 2 * (N * 2 ^ 1074) ≤ 2 * (2 ^ 40 * 2 ^ 1074) := Nat.mul_le_mul_left _ (Nat.mul_le_mul_right _ (by omega))
      have h6 := Nat.le_trans (Nat.le_trans h4 this) h5
      revert h6
      decide +kernel
  refine ⟨t, hlt, e, ?_⟩
  have hq : N * 8192 / d < 2 ^ 53 := Nat.lt_of_le_of_lt (Nat.div_le_self _ _) (by omega)
  obtain ⟨t', _, _, hV⟩ := rep 1061 (N * 8192 / d) hq (by decide)
  have h4 := (h3 hlt t').1
  rw [hK] at h4
  refine Nat.le_trans h4 ?_
  rw [hV]
  generalize (2 : Nat) ^ 1061 = U
  have e1 : N * (8192 * U) = d * (N * 8192 / d * U) + N * 8192 % d * U := by
    rw [← Nat.mul_assoc, ← Nat.mul_assoc, ← Nat.add_mul, Nat.div_add_mod]
  unfold dist
  omega
theorem floor_quot {a b : Int} (hb : 0 < b) (hb2 : b < 4096) (ha : a.natAbs < 2 ^ 40) :
    toInt floorOf (ofFrac (decide (a < 0) != decide (b < 0)) a.natAbs b.natAbs) = a / b := by
  have e0 : (decide (a < 0) != decide (b < 0)) = decide (a < 0) := by
    rw [show decide (b < 0) = false from decide_eq_false (by omega)]; simp
  rw [e0]
  obtain ⟨d, rfl⟩ : ∃ d : Nat, b = (d : Int) := ⟨b.toNat, by omega⟩
  have hd : 0 < d := by omega
  have hd2 : d < 4096 := by omega
  simp only [Int.natAbs_natCast]
  obtain ⟨t, ht, e, h⟩ := quot_pack (neg := decide (a < 0)) hd ha
  have hK : ((2 ^ 1074 : Nat) : Int) = ((8192 * 2 ^ 1061 : Nat) : Int) := congrArg _ (by decide +kernel)
  have hU : (0 : Nat) < 2 ^ 1061 := Nat.two_pow_pos _
  rw [e, floor_pack ht, hK]
  generalize (2 : Nat) ^ 1061 = U at *
  obtain ⟨c1, c2⟩ := nat_core hd hd2 hU h
  generalize V t = v at *
  have hKp : (0 : Int) < ((8192 * U : Nat) : Int) := by omega
  generalize 8192 * U = K at *
  by_cases hneg : a < 0
  · simp only [hneg, decide_true, sgn, if_true]
    by_cases h0 : a.natAbs % d = 0
    · have hv := c1 h0
      rw [hv]
      have : a = -(((a.natAbs / d : Nat) : Int) * d) := by
        have q := Nat.div_add_mod a.natAbs d
        rw [h0] at q
        have q2 : ((d * (a.natAbs / d) : Nat) : Int) = a.natAbs := by omega
        rw [Int.natCast_mul] at q2
        rw [Int.mul_comm]
        omega
      generalize a.natAbs / d = z at *
      rw [this, Int.natCast_mul, ← Int.neg_mul, ← Int.neg_mul, Int.mul_ediv_cancel _ (by omega), Int.mul_ediv_cancel _ (by omega)]
    · obtain ⟨l1, l2⟩ := c2 h0
      have q := Nat.div_add_mod a.natAbs d
      have hr := Nat.mod_lt a.natAbs hd
      generalize a.natAbs / d = z at *
      generalize hrr : a.natAbs % d = r at *
      have l1' : ((z * K : Nat) : Int) < v := Int.ofNat_lt.mpr l1
      have l2' : (v : Int) < (((z + 1) * K : Nat) : Int) := Int.ofNat_lt.mpr l2
      have q' : ((d * z + r : Nat) : Int) = -a := by omega
      rw [Int.natCast_mul] at l1' l2'
      rw [Int.natCast_add, Int.natCast_mul] at q'
      rw [Int.natCast_add, Int.natCast_one] at l2'
      rw [div_of (q := -(z : Int) - 1) hKp (by
          have : (-(z : Int) - 1) * K = -(((z : Int) + 1) * K) := by rw [← Int.neg_mul]; congr 1; omega
          omega) (by
          have : (-(z : Int) - 1 + 1) * K = -((z : Int) * K) := by rw [← Int.neg_mul]; congr 1; omega
          omega)]
      symm
      refine div_of (by omega) ?_ ?_
      · have : (-(z : Int) - 1) * d = -((d : Int) * z) - d := by rw [Int.sub_mul, Int.neg_mul, Int.mul_comm, Int.one_mul]
        omega
      · have : (-(z : Int) - 1 + 1) * d = -((d : Int) * z) := by rw [show -(z : Int) - 1 + 1 = -z by omega, Int.neg_mul, Int.mul_comm]
        omega
  · simp only [hneg, decide_false, sgn, Bool.false_eq_true, if_false]
    have ha' : (a.natAbs : Int) = a := by omega
    have hdiv : a / (d : Int) = ((a.natAbs / d : Nat) : Int) := by rw [← ha']; simp
    rw [hdiv]
    by_cases h0 : a.natAbs % d = 0
    · rw [c1 h0, Int.natCast_mul, Int.mul_ediv_cancel _ (by omega)]
    · obtain ⟨l1, l2⟩ := c2 h0
      generalize a.natAbs / d = z at *
      have l1' : ((z * K : Nat) : Int) < v := Int.ofNat_lt.mpr l1
      have l2' : (v : Int) < (((z + 1) * K : Nat) : Int) := Int.ofNat_lt.mpr l2
      rw [Int.natCast_mul] at l1' l2'
      rw [Int.natCast_add, Int.natCast_one] at l2'
      exact div_of hKp (by omega) l2'
theorem epoch_less : Float64.sub 4700144277945057280 (Float64.ofInt 1) = hf 1721424 := by decide +kernel
/-- the day of the year's part -/
theorem month_floor : ∀ m : Fin 13, ∀ a : Fin 3, ∀ d : Fin 30, 1 ≤ m.val → 1 ≤ d.val →
    toInt floorOf (add (add (ofFrac false (367 * m.val - 362) 12) (ofInt (-(a.val : Int)))) (ofInt d.val)) = (367 * (m.val : Int) - 362 + 12 * (-(a.val : Int)) + 12 * d.val) / 12 := by decide +kernel
end Mine
end
section
namespace Mine
open PySem.Float64 PySem.Flt
theorem half_is : hf 0 = 4602678819172646912 := by decide +kernel
theorem trunc_pack {n : Int} {t : Nat} (h : t < infMag) (hv : V t = n.natAbs * 2 ^ 1074) : toInt truncOf (pack (decide (n < 0)) t) = n := by
  obtain ⟨m, e, hd, hm⟩ := decode_pack (decide (n < 0)) h
  have hp : ((2 ^ 1074 : Nat) : Int) ≠ 0 := by have := Int.ofNat_lt.mpr (Nat.two_pow_pos 1074); omega
  rw [toInt_fin hd]
  unfold truncOf
  split
  · rename_i hn
    unfold ceilOf
    rw [floorOf_val (decode_ge hd), hm, hv, sgn_mul, Int.mul_ediv_cancel _ hp, hn]
    simp only [Bool.not_true, sgn, Bool.false_eq_true, if_false]
    have := of_decide_eq_true hn
    omega
  · rename_i hn
    have hn' : decide (n < 0) = false := by simpa using hn
    rw [floorOf_val (decode_ge hd), hm, hv, sgn_mul, Int.mul_ediv_cancel _ hp, hn']
    simp only [sgn, Bool.false_eq_true, if_false]
    have := of_decide_eq_false hn'
    omega
theorem trunc_half {a : Int} (h : a.natAbs < 2 ^ 51) : toInt truncOf (add (hf a) 4602678819172646912) = a + 1 := by
  obtain ⟨m, e, hd, hv⟩ := hf_val (n := a) (by omega)
  obtain ⟨m', e', hd', hv'⟩ := hf_val (n := 0) (by decide)
  rw [← half_is]
  have hs : val (hf a) + val (hf 0) = (a + 1) * ((2 ^ 1074 : Nat) : Int) := by
    rw [hv, hv', pow_step, show (a + 1) * (2 * ((2 ^ 1073 : Nat) : Int)) = (2 * a + 2) * ((2 ^ 1073 : Nat) : Int) by rw [← Int.mul_assoc]; congr 1; omega, ← Int.add_mul]
    congr 1
    omega
  obtain ⟨hz, hnz⟩ := add_right hd hd'
  by_cases h0 : a + 1 = 0
  · have ha : a = -1 := by omega
    subst ha
    decide +kernel
  · have hne : val (hf a) + val (hf 0) ≠ 0 := by
      rw [hs]
      intro q
      have hp := pow_pos'
      rcases Int.mul_eq_zero.mp q with q | q
      · omega
      · rw [pow_step] at q; omega
    have hr := hnz hne
    have hp : (0 : Int) < ((2 ^ 1074 : Nat) : Int) := Int.ofNat_lt.mpr (Nat.two_pow_pos _)
    rw [hs, show decide ((a + 1) * ((2 ^ 1074 : Nat) : Int) < 0) = decide (a + 1 < 0) from decide_eq_decide.mpr (mul_neg_iff hp), Int.natAbs_mul, Int.natAbs_natCast] at hr
    obtain ⟨t, h1, h2, _⟩ := int_pack (n := a + 1) (by omega)
    rw [right_exact hr (by decide) h1 (by rw [h2, Nat.one_mul])]
    exact trunc_pack h1 h2
theorem half_fin {a : Int} (h : a.natAbs < 2 ^ 51) : isFinite (add (hf a) 4602678819172646912) = true := by
  obtain ⟨m, e, hd, hv⟩ := hf_val (n := a) (by omega)
  obtain ⟨m', e', hd', hv'⟩ := hf_val (n := 0) (by decide)
  by_cases h0 : a + 1 = 0
  · have ha : a = -1 := by omega
    subst ha
    decide +kernel
  · have hs : val (hf a) + val (hf 0) = (a + 1) * ((2 ^ 1074 : Nat) : Int) := by
      rw [hv, hv', pow_step, show (a + 1) * (2 * ((2 ^ 1073 : Nat) : Int)) = (2 * a + 2) * ((2 ^ 1073 : Nat) : Int) by rw [← Int.mul_assoc]; congr 1; omega, ← Int.add_mul]
      congr 1
      omega
    have hne : val (hf a) + val (hf 0) ≠ 0 := by
      rw [hs]
      intro q
      have hp := pow_pos'
      rcases Int.mul_eq_zero.mp q with q | q
      · omega
      · rw [pow_step] at q; omega
    rw [← half_is]
    have hr := (add_right hd hd').2 hne
    have hp : (0 : Int) < ((2 ^ 1074 : Nat) : Int) := Int.ofNat_lt.mpr (Nat.two_pow_pos _)
    rw [hs, show decide ((a + 1) * ((2 ^ 1074 : Nat) : Int) < 0) = decide (a + 1 < 0) from decide_eq_decide.mpr (mul_neg_iff hp), Int.natAbs_mul, Int.natAbs_natCast] at hr
    obtain ⟨t, h1, h2, _⟩ := int_pack (n := a + 1) (by omega)
    rw [right_exact hr (by decide) h1 (by rw [h2, Nat.one_mul])]
    obtain ⟨m, e, hd, _⟩ := decode_pack (decide (a + 1 < 0)) h1
    unfold isFinite; rw [hd]
section
variable {prog : Program} {w : World} {A : Around} {E : Value → Shared → Prop} {s : Shared} {t u : Tok} {Q : Value → Shared → Prop}
theorem not_over {n : Int} (h : n.natAbs < 2 ^ 50) : n.natAbs < 2 ^ 1024 - 2 ^ 970 := by
  have : (2 : Nat) ^ 50 ≤ 2 ^ 1024 - 2 ^ 970 := by decide +kernel
  omega
theorem step_sub (hA : A.handled = none) (h : ∀ t' k, Q (.float (hf 1721424) t') { s with toks := k }) : wpAny (model prog w) A (binaryOp .Sub (.float 4700144277945057280 t) (.int 1 u)) Q E s :=
  sub_fi_sharp hA (fun q => by exfalso; revert q; decide +kernel) (fun _ => by rw [epoch_less]; exact h _ _)
theorem step_add {a n : Int} (hA : A.handled = none) (h1 : a.natAbs < 2 ^ 50) (h2 : n.natAbs < 2 ^ 50) (h : ∀ t' k, Q (.float (hf (a + n)) t') { s with toks := k }) :
    wpAny (model prog w) A (binaryOp .Add (.float (hf a) t) (.int n u)) Q E s :=
  add_fi_sharp hA (fun q => by have := not_over h2; omega) (fun _ => by rw [hf_add (by omega) (by omega) (by omega)]; exact h _ _)
theorem floor_fin {x : UInt64} (h0 : isFinite x = true) (hA : A.handled = none) (h : ∀ t' k, Q (.int (toInt floorOf x) t') { s with toks := k }) : wpAny (model prog w) A (call (.builtin "math.floor") [.float x t]) Q E s :=
  call_floor_float hA (fun q => by rw [not_nan_of_finite h0] at q; cases q) (fun q => by rw [not_inf_of_finite h0] at q; cases q) (fun _ => h _ _)
theorem pack_fin {neg : Bool} {t : Nat} (h : t < infMag) : isFinite (pack neg t) = true := by
  obtain ⟨m, e, hd, _⟩ := decode_pack neg h
  unfold isFinite; rw [hd]
theorem step_floor {a b : Int} (hA : A.handled = none) (hb : 0 < b) (hb2 : b < 4096) (ha : a.natAbs < 2 ^ 40) (h : ∀ t' k, Q (.int (a / b) t') { s with toks := k }) :
    wpAny (model prog w) A (call (.builtin "math.floor") [.float (ofFrac (decide (a < 0) != decide (b < 0)) a.natAbs b.natAbs) t]) Q E s :=
  floor_fin (by
    obtain ⟨t, ht, e, _⟩ := quot_pack (neg := decide (a < 0) != decide (b < 0)) (d := b.natAbs) (by omega) ha
    rw [e]; exact pack_fin ht) hA (fun t' k => by rw [floor_quot hb hb2 ha]; exact h _ _)
theorem month_fin : ∀ m : Fin 13, ∀ a : Fin 3, ∀ d : Fin 30, 1 ≤ m.val → 1 ≤ d.val →
    isFinite (add (add (ofFrac false (367 * m.val - 362) 12) (ofInt (-(a.val : Int)))) (ofInt d.val)) = true := by decide +kernel
theorem month_shape {m : Int} (h1 : 1 ≤ m) (h2 : m ≤ 12) : ofFrac (decide (367 * m - 362 < 0) != decide ((12 : Int) < 0)) (367 * m - 362).natAbs (12 : Int).natAbs = ofFrac false (367 * m.toNat - 362) 12 := by
  have e1 : (decide (367 * m - 362 < 0) != decide ((12 : Int) < 0)) = false := by
    rw [show decide (367 * m - 362 < 0) = false from decide_eq_false (by omega)]; decide
  rw [e1, show (367 * m - 362).natAbs = 367 * m.toNat - 362 by omega]
  rfl
theorem step_month {m a d : Int} (hA : A.handled = none) (hm : 1 ≤ m) (hm2 : m ≤ 12) (ha : -2 ≤ a) (ha2 : a ≤ 0) (hd : 1 ≤ d) (hd2 : d ≤ 29) (h : ∀ t' k, Q (.int ((367 * m - 362 + 12 * a + 12 * d) / 12) t') { s with toks := k }) :
    wpAny (model prog w) A (call (.builtin "math.floor") [.float (add (add (ofFrac (decide (367 * m - 362 < 0) != decide ((12 : Int) < 0)) (367 * m - 362).natAbs (12 : Int).natAbs) (ofInt a)) (ofInt d)) t]) Q E s := by
  rw [month_shape hm hm2]
  have q1 := month_fin ⟨m.toNat, by omega⟩ ⟨(-a).toNat, by omega⟩ ⟨d.toNat, by omega⟩ (by simp only; omega) (by simp only; omega)
  have q2 := month_floor ⟨m.toNat, by omega⟩ ⟨(-a).toNat, by omega⟩ ⟨d.toNat, by omega⟩ (by simp only; omega) (by simp only; omega)
  simp only [show -(((-a).toNat : Nat) : Int) = a by omega, show ((d.toNat : Nat) : Int) = d by omega, show ((m.toNat : Nat) : Int) = m by omega] at q1 q2
  exact floor_fin q1 hA (fun t' k => by rw [q2]; exact h _ _)
theorem step_trunc {a : Int} (hA : A.handled = none) (ha : a.natAbs < 2 ^ 51) (h : ∀ t' k, Q (.int (a + 1) t') { s with toks := k }) :
    wpAny (model prog w) A (call (.builtin "math.trunc") [.float (add (hf a) 4602678819172646912) t]) Q E s :=
  call_trunc_float hA (fun q => by rw [not_nan_of_finite (half_fin ha)] at q; cases q) (fun q => by rw [not_inf_of_finite (half_fin ha)] at q; cases q) (fun _ => by rw [trunc_half ha]; exact h _ _)
theorem step_eq {a b : Int} (h1 : a.natAbs < 2 ^ 51) (h2 : b.natAbs < 2 ^ 51) (h : Q (.bool (decide (a = b))) s) : wpAny (model prog w) A (compareOp .Eq (.float (hf a) t) (.float (hf b) u)) Q E s :=
  AutoFloatOps.eq_0 (by rw [hf_eq (by omega) (by omega)]; exact h)
end
end Mine
end
section
namespace Mine
abbrev Ret (h₀ : Heap) (L : Addr) (m : Str → Option Value) (news : List (Addr × Obj)) (s : Shared) (Q : Value → Shared → Prop) (R : Tok → Value) : Prop :=
  ∀ (t : Tok) (h' : Heap) (tk' : Nat), Fr h₀ L h' m → News h₀ L h' news → Q (R t) { s with heap := h', toks := tk' }
abbrev Gives (w : World) (f : Addr) (d : Nat) (vs : List Value) (R : Tok → Value) : Prop :=
  ∀ (loose : List Str) (mean : ExcName → Option Value) (mg mb : Str → Option Value) (news : List (Addr × Obj)) (dp un : Nat) (gd : Option (List Code)) (cn : Str) (cs : Scope) (a : Addr) (ccd : Value) (cl : List (Str × Addr)) (outer : List Env) (A₀ : Around) (base h₀ : Heap) (L : Addr) (m : Str → Option Value) (s : Shared) (Q E : Value → Shared → Prop),
    Below A₀ base outer h₀ → Fr h₀ L s.heap m → (hd.heap_39 w.params).In h₀ → News h₀ L s.heap news → Top hd.view_39 loose mean mg mb h₀ → cs.kind = .function →
    dp + d < recursionLimit → un + 8 * d < cLine → Ret h₀ L m news s Q R →
      wpAny (model PySem.Challenge.rw_ad5012_01.row.prog w) (ktrTop dp un gd cn cs L a ccd cl outer) (call (.ref f) vs) Q E s
theorem use {w : World} {f : Addr} {d : Nat} {vs : List Value} {R : Tok → Value} (C : Gives w f d vs R)
    {loose : List Str} {mean : ExcName → Option Value} {mg mb : Str → Option Value} {news : List (Addr × Obj)} {dp un : Nat} {gd : Option (List Code)} {cn : Str} {cs : Scope} {a : Addr} {ccd : Value} {cl : List (Str × Addr)} {outer : List Env} {A₀ : Around} {base h₀ : Heap} {L : Addr} {m : Str → Option Value} {s : Shared} {Q E : Value → Shared → Prop}
    (B : Below A₀ base outer h₀) (F : Fr h₀ L s.heap m) (X : (hd.heap_39 w.params).In h₀) (N : News h₀ L s.heap news) (T : Top hd.view_39 loose mean mg mb h₀) (hk : cs.kind = .function)
    (h1 : dp + d < recursionLimit) (h2 : un + 8 * d < cLine) (r : Ret h₀ L m news s Q R) : wpAny (model PySem.Challenge.rw_ad5012_01.row.prog w) (ktrTop dp un gd cn cs L a ccd cl outer) (call (.ref f) vs) Q E s :=
  C _ _ _ _ _ _ _ _ _ _ _ _ _ _ _ _ _ _ _ _ _ _ B F X N T hk h1 h2 r
end Mine
end
section
namespace Mine
theorem fm (a : Int) {b : Int} (h : 0 ≤ b) : a.fmod b = a % b := Int.fmod_eq_emod_of_nonneg a h
def leapB (y : Int) : Bool := decide (y % 4 = 0 ∧ (y % 100 ≠ 0 ∨ y % 400 = 0))
theorem leap1 {y : Int} (h : y.fmod 4 = 0) (h2 : y.fmod 100 ≠ 0) : (y.fmod 100 != 0) = leapB y := by
  rw [fm _ (by decide)] at h h2; unfold leapB; simp [fm _ (show (0 : Int) ≤ 100 by decide), h, h2]
theorem leap2 {y : Int} (h : y.fmod 4 = 0) (h2 : y.fmod 100 = 0) : decide (y.fmod 400 = 0) = leapB y := by
  rw [fm _ (by decide)] at h h2; unfold leapB; simp [fm _ (show (0 : Int) ≤ 400 by decide), h, h2]
theorem leap3 {y : Int} (h : ¬ y.fmod 4 = 0) : decide (y.fmod 4 = 0) = leapB y := by
  rw [fm _ (by decide)] at h; unfold leapB; simp [fm _ (show (0 : Int) ≤ 4 by decide), h]
theorem c_isleap (w : World) (y : Int) (t : Tok) : Gives w 57 1 [.int y t] (fun _ => .bool (leapB y)) := by
  unfold Gives Ret; k_fill; w_top off; intros
  rename_i hret
  refine wpAny_call ?_
  k_dflt cell_enter
  k_steps
  all_goals (refine cb_retB hret ?_ (by k_asm) (by k_asm))
  · exact leap1 (by assumption) (by assumption)
  · exact leap2 (by assumption) (by assumption)
  · exact leap3 (by assumption)
end Mine
end
section
namespace Mine
local macro_rules | `(tactic| walk_at "call ref") => `(tactic| (k_here; k_dflt (refine' use (c_isleap _ _ _) ?k1 ?k2 ?k3 ?k4 ?k5 ?k6 ?k7 ?k8 ?_; (case k1 => k_asm); (case k2 => k_asm); (case k3 => k_asm); (case k4 => k_asm); (case k5 => k_asm); (case k6 => first | exact rfl | assumption); (case k7 => ktr_room); (case k8 => ktr_units); intro t9 h9 tk9 F9 N9; (try dsimp only); (try k_fold))))
theorem step_in30 {prog : Program} {w : World} {A : Around} {E : Value → Shared → Prop} {s : Shared} {h₀ : Heap} {L a : Addr} {m : Str → Option Value} {K : Frag} {l : List Value} {ns : List Int} {dd : Option Addr} {sl : Array (Option Value)} {n : Nat} {k : Int} {t : Tok} {Q : Value → Shared → Prop}
    (F : Fr h₀ L s.heap m) (X₀ : K.In h₀) (hl : K.lookup a = some ⟨.type "tuple", dd, .seq l.toArray n, sl⟩) (hi : IntsAre l ns) (h : Q (.bool (ns.any (· == k))) s) :
    wpAny (model prog w) A (compareOp .In (.int k t) (.ref a)) Q E s := in_tuple_ints (tupK (X₀.keeps F.keep) hl) (by simpa using hi) h
local macro_rules | `(tactic| walk_at "compareOp In int ref") => `(tactic| (k_here; k_dflt (refine' step_in30 (ns := [4, 6, 9, 11]) ?k1 ?k2 ?k3 ?k4 ?_; (case k1 => k_asm); (case k2 => k_asm); (case k3 => k_is); (case k4 => exact .cons _ _ (.cons _ _ (.cons _ _ (.cons _ _ .nil)))))))
def Legal (y m d : Int) : Prop := 1 ≤ m ∧ m ≤ 12 ∧ 1 ≤ d ∧ (d ≤ 28 ∨ (m = 2 ∧ d = 29 ∧ leapB y = true))
theorem c_legal (w : World) (y m d : Int) (t u v : Tok) (h : Legal y m d) : Gives w 64 3 [.int y t, .int m u, .int d v] (fun _ => .bool true) := by
  unfold Legal at h
  obtain ⟨h1, h2, h3, h4⟩ := h
  unfold Gives Ret; k_fill; w_top off; intros
  rename_i hret
  refine wpAny_call ?_
  k_dflt cell_enter
  rcases h4 with h4 | ⟨rfl, rfl, hl⟩
  all_goals k_steps
  all_goals first | exact cb_retB hret rfl (by k_asm) (by k_asm) | (exfalso; simp_all; done)
end Mine
end
section
namespace Mine
local macro_rules | `(tactic| walk_at "call ref") => `(tactic| (k_here; k_dflt (refine' use (c_isleap _ _ _) ?k1 ?k2 ?k3 ?k4 ?k5 ?k6 ?k7 ?k8 ?_; (case k1 => k_asm); (case k2 => k_asm); (case k3 => k_asm); (case k4 => k_asm); (case k5 => k_asm); (case k6 => first | exact rfl | assumption); (case k7 => ktr_room); (case k8 => ktr_units); intro t9 h9 tk9 F9 N9; (try dsimp only); (try k_fold))))
local macro_rules | `(tactic| walk_at "call ref") => `(tactic| (k_here; k_dflt (refine' use (c_legal _ _ _ _ _ _ _ ?kp0) ?k1 ?k2 ?k3 ?k4 ?k5 ?k6 ?k7 ?k8 ?_; (case kp0 => (first | assumption | omega | exact Nat.lt_trans (JD_size (by omega) (by omega) (by omega) (by omega) (by omega)) (by decide))); (case k1 => k_asm); (case k2 => k_asm); (case k3 => k_asm); (case k4 => k_asm); (case k5 => k_asm); (case k6 => first | exact rfl | assumption); (case k7 => ktr_room); (case k8 => ktr_units); intro t9 h9 tk9 F9 N9; (try dsimp only); (try k_fold))))
local macro_rules | `(tactic| walk_at "binaryOp Sub float int") => `(tactic| (k_here; refine' step_sub rfl ?_; intro t8 k8; (try dsimp only)))
local macro_rules | `(tactic| walk_at "binaryOp Add float int") => `(tactic| (k_here; refine' step_add rfl ?k1 ?k2 ?_; (case k1 => omega); (case k2 => omega); intro t8 k8; (try dsimp only)))
local macro_rules | `(tactic| walk_at "call builtin:math.floor") => `(tactic| (k_here; first
  | (refine' step_floor rfl ?k1 ?k2 ?k3 ?_; (case k1 => decide); (case k2 => decide); (case k3 => omega); intro t8 k8; (try dsimp only))
  | (refine' step_month rfl ?k1 ?k2 ?k3 ?k4 ?k5 ?k6 ?_; (case k1 => omega); (case k2 => omega); (case k3 => omega); (case k4 => omega); (case k5 => omega); (case k6 => omega); intro t8 k8; (try dsimp only))))
local macro_rules | `(tactic| walk_at "call builtin:math.trunc") => `(tactic| (k_here; refine' step_trunc rfl ?k1 ?_; (case k1 => omega); intro t8 k8; (try dsimp only)))
local macro_rules | `(tactic| walk_at "compareOp Eq float float") => `(tactic| (k_here; refine' step_eq ?k1 ?k2 ?_; (case k1 => first | omega | exact Nat.lt_trans (JD_size (by omega) (by omega) (by omega) (by omega) (by omega)) (by decide)); (case k2 => omega); (try dsimp only)))
def adj (y m : Int) : Int := if m ≤ 2 then 0 else if leapB y = true then -1 else -2
def JD (y m d : Int) : Int := 1721424 + 365 * (y - 1) + (y - 1) / 4 + -((y - 1) / 100) + (y - 1) / 400 + (367 * m - 362 + 12 * adj y m + 12 * d) / 12
theorem JD_size {y m d : Int} (hy : y.natAbs < 2 ^ 35) (h1 : 1 ≤ m) (h2 : m ≤ 12) (h3 : 1 ≤ d) (h4 : d ≤ 29) : (JD y m d).natAbs < 2 ^ 45 := by
  unfold JD adj
  split
  · omega
  · split <;> omega
theorem legal28 {y m d : Int} (h1 : 1 ≤ m) (h2 : m ≤ 12) (h3 : 1 ≤ d) (h4 : d ≤ 28) : Legal y m d := ⟨h1, h2, h3, .inl h4⟩
theorem adj0 {y m : Int} (h : m ≤ 2) : adj y m = 0 := if_pos h
theorem adj1 {y m : Int} (h : ¬ m ≤ 2) (h2 : leapB y = true) : adj y m = -1 := by unfold adj; rw [if_neg h, if_pos h2]
theorem adj2 {y m : Int} (h : ¬ m ≤ 2) (h2 : leapB y = false) : adj y m = -2 := by unfold adj; rw [if_neg h, if_neg (by rw [h2]; decide)]
theorem retF {h₀ h' : Heap} {L : Addr} {m : Str → Option Value} {news : List (Addr × Obj)} {s : Shared} {Q : Value → Shared → Prop} {t : Tok} {tk' : Nat} {x y : UInt64}
    (hret : ∀ (t : Tok) (h' : Heap) (tk' : Nat), Fr h₀ L h' m → News h₀ L h' news → Q (.float x t) { s with heap := h', toks := tk' }) (e : y = x) (F : Fr h₀ L h' m) (N : News h₀ L h' news) : Q (.float y t) { s with heap := h', toks := tk' } := by
  subst e
  exact hret t h' tk' F N
theorem c_to_jd (w : World) (y m d : Int) (t u v : Tok) (h : Legal y m d) (hy : y.natAbs < 2 ^ 35) : Gives w 71 4 [.int y t, .int m u, .int d v] (fun t => .float (hf (JD y m d)) t) := by
  have hl := h
  unfold Legal at h
  obtain ⟨h1, h2, h3, h4⟩ := h
  have h5 : d ≤ 29 := by omega
  clear h4
  unfold Gives Ret; k_fill; w_top off; intros
  rename_i hret
  refine wpAny_call ?_
  k_dflt cell_enter
  k_steps
  all_goals (refine retF hret ?_ (by k_asm) (by k_asm); unfold JD; first | rw [adj0 (by assumption)] | rw [adj1 (by assumption) (by assumption)] | rw [adj2 (by assumption) (by assumption)])
theorem c_jd28 (w : World) (y m d : Int) (t u v : Tok) (h1 : 1 ≤ m) (h2 : m ≤ 12) (h3 : 1 ≤ d) (h4 : d ≤ 28) (hy : y.natAbs < 2 ^ 35) : Gives w 71 4 [.int y t, .int m u, .int d v] (fun t => .float (hf (JD y m d)) t) := c_to_jd w y m d t u v (legal28 h1 h2 h3 h4) hy
theorem c_jd29 (w : World) (y : Int) (t u v : Tok) (h : leapB y = true) (hy : y.natAbs < 2 ^ 35) : Gives w 71 4 [.int y t, .int 2 u, .int 29 v] (fun t => .float (hf (JD y 2 29)) t) := c_to_jd w y 2 29 t u v ⟨by decide, by decide, by decide, .inr ⟨rfl, rfl, h⟩⟩ hy
end Mine
end
section
namespace Mine
local macro_rules | `(tactic| walk_at "call ref") => `(tactic| (k_here; k_dflt (refine' use (c_isleap _ _ _) ?k1 ?k2 ?k3 ?k4 ?k5 ?k6 ?k7 ?k8 ?_; (case k1 => k_asm); (case k2 => k_asm); (case k3 => k_asm); (case k4 => k_asm); (case k5 => k_asm); (case k6 => first | exact rfl | assumption); (case k7 => ktr_room); (case k8 => ktr_units); intro t9 h9 tk9 F9 N9; (try dsimp only); (try k_fold))))
local macro_rules | `(tactic| walk_at "call ref") => `(tactic| (k_here; k_dflt (refine' use (c_to_jd _ _ _ _ _ _ _ ?kp0 ?kp1) ?k1 ?k2 ?k3 ?k4 ?k5 ?k6 ?k7 ?k8 ?_; (case kp0 => (first | assumption | omega | exact Nat.lt_trans (JD_size (by omega) (by omega) (by omega) (by omega) (by omega)) (by decide))); (case kp1 => (first | assumption | omega | exact Nat.lt_trans (JD_size (by omega) (by omega) (by omega) (by omega) (by omega)) (by decide))); (case k1 => k_asm); (case k2 => k_asm); (case k3 => k_asm); (case k4 => k_asm); (case k5 => k_asm); (case k6 => first | exact rfl | assumption); (case k7 => ktr_room); (case k8 => ktr_units); intro t9 h9 tk9 F9 N9; (try dsimp only); (try k_fold))))
local macro_rules | `(tactic| walk_at "binaryOp Sub float int") => `(tactic| (k_here; refine' step_sub rfl ?_; intro t8 k8; (try dsimp only)))
local macro_rules | `(tactic| walk_at "binaryOp Add float int") => `(tactic| (k_here; refine' step_add rfl ?k1 ?k2 ?_; (case k1 => omega); (case k2 => omega); intro t8 k8; (try dsimp only)))
local macro_rules | `(tactic| walk_at "call builtin:math.floor") => `(tactic| (k_here; first
  | (refine' step_floor rfl ?k1 ?k2 ?k3 ?_; (case k1 => decide); (case k2 => decide); (case k3 => omega); intro t8 k8; (try dsimp only))
  | (refine' step_month rfl ?k1 ?k2 ?k3 ?k4 ?k5 ?k6 ?_; (case k1 => omega); (case k2 => omega); (case k3 => omega); (case k4 => omega); (case k5 => omega); (case k6 => omega); intro t8 k8; (try dsimp only))))
local macro_rules | `(tactic| walk_at "call builtin:math.trunc") => `(tactic| (k_here; refine' step_trunc rfl ?k1 ?_; (case k1 => omega); intro t8 k8; (try dsimp only)))
local macro_rules | `(tactic| walk_at "compareOp Eq float float") => `(tactic| (k_here; refine' step_eq ?k1 ?k2 ?_; (case k1 => first | omega | exact Nat.lt_trans (JD_size (by omega) (by omega) (by omega) (by omega) (by omega)) (by decide)); (case k2 => omega); (try dsimp only)))
theorem c_jwday (w : World) (n : Int) (t : Tok) (h : n.natAbs < 2 ^ 50) : Gives w 49 1 [.float (hf n) t] (fun t => .int ((n + 1) % 7) t) := by
  unfold Gives Ret; k_fill; w_top off; intros
  rename_i hret
  refine wpAny_call ?_
  k_dflt cell_enter
  k_steps
  all_goals (refine cb_retI hret ?_ (by k_asm) (by k_asm); exact fm _ (by decide))
local macro_rules | `(tactic| walk_at "call ref") => `(tactic| (k_here; k_dflt (refine' use (c_jwday _ _ _ ?kp0) ?k1 ?k2 ?k3 ?k4 ?k5 ?k6 ?k7 ?k8 ?_; (case kp0 => (first | assumption | omega | exact Nat.lt_trans (JD_size (by omega) (by omega) (by omega) (by omega) (by omega)) (by decide))); (case k1 => k_asm); (case k2 => k_asm); (case k3 => k_asm); (case k4 => k_asm); (case k5 => k_asm); (case k6 => first | exact rfl | assumption); (case k7 => ktr_room); (case k8 => ktr_units); intro t9 h9 tk9 F9 N9; (try dsimp only); (try k_fold))))
def WD (y m d : Int) : Int := (JD y m d + 1) % 7
def weeks (y : Int) : Int := if WD y 1 1 = 3 ∨ (WD y 1 1 = 2 ∧ leapB y = true) then 53 else 52
theorem c_weeks (w : World) (y : Int) (t : Tok) (h : y.natAbs < 2 ^ 35) : Gives w 78 6 [.int y t] (fun t => .int (weeks y) t) := by
  have hl : Legal y 1 1 := legal28 (by decide) (by decide) (by decide) (by decide)
  have hs := JD_size (m := 1) (d := 1) h (by decide) (by decide) (by decide) (by decide)
  unfold Gives Ret; k_fill; w_top off; intros
  rename_i hret
  refine wpAny_call ?_
  k_dflt cell_enter
  k_steps
  all_goals (refine cb_retI hret ?_ (by k_asm) (by k_asm); unfold weeks WD; simp_all)
def within (n : Int) : Int := if n % 2000000001 ≤ 1000000000 then n % 2000000001 else n % 2000000001 - 2000000001
theorem c_within (w : World) (n : Int) (t u : Tok) : Gives w 85 1 [.int n t, .int 1000000000 u] (fun t => .int (within n) t) := by
  unfold Gives Ret; k_fill; w_top off; intros
  rename_i hret
  refine wpAny_call ?_
  k_dflt cell_enter
  k_steps
  all_goals (refine cb_retI hret ?_ (by k_asm) (by k_asm); unfold within; simp only [fm n (show (0 : Int) ≤ 2 * 1000000000 + 1 by decide)] at *; split <;> omega)
theorem long1 {y : Int} (h : y.fmod 100 = 0) : (y.fmod 400 == 0) = leapB y := by
  rw [fm _ (by decide)] at h
  rw [fm _ (by decide)]
  unfold leapB
  by_cases h4 : y % 400 = 0
  · simp [h4]; omega
  · simp [h4, h]
theorem long2 {y : Int} (h : ¬ y.fmod 100 = 0) : (y.fmod 4 == 0) = leapB y := by
  rw [fm _ (by decide)] at h
  rw [fm _ (by decide)]
  unfold leapB
  by_cases h4 : y % 4 = 0 <;> simp [h4, h]
theorem c_long (w : World) (y : Int) (t : Tok) : Gives w 92 1 [.int y t] (fun _ => .bool (leapB y)) := by
  unfold Gives Ret; k_fill; w_top off; intros
  rename_i hret
  refine wpAny_call ?_
  k_dflt cell_enter
  k_steps
  all_goals (refine cb_retB hret ?_ (by k_asm) (by k_asm))
  · exact long1 (by assumption)
  · exact long2 (by assumption)
end Mine
end
section
namespace Mine
def gsel (p : Int → Bool) (l : List Int) (k : Int) : List Int := if p k = true then l ++ [k] else l
theorem gsel_yes {p : Int → Bool} {l : List Int} {k : Int} (h : p k = true) : gsel p l k = l ++ [k] := if_pos h
theorem gsel_no {p : Int → Bool} {l : List Int} {k : Int} (h : p k = false) : gsel p l k = l := if_neg (by rw [h]; decide)
theorem gsel_grows (p : Int → Bool) : KPfGrows (gsel p) := by
  intro l k
  unfold gsel
  split <;> simp
theorem gsel_fold (p : Int → Bool) : ∀ ks l : List Int, ks.foldl (gsel p) l = l ++ ks.filter p
  | [], l => by simp
  | k :: r, l => by
    rw [List.foldl_cons, gsel_fold p r, List.filter_cons]
    unfold gsel
    split <;> simp
section
variable {prog : Program} {w : World} {A : Around} {h₀ : Heap} {L : Addr} {m : Str → Option Value} {env : Env} {ct elt : Expr} {x : Str} {scope : Scope} {cl : List (Str × Addr)} {s : Shared} {S : List (Addr × Obj) → Prop} {Fin : List Value → List (Addr × Obj) → Prop} {news : List (Addr × Obj)}
theorem sel_range {n : Nat} {a : Int} (p : Int → Bool)
    (turn : ∀ k t I oI C oC D m₂ ys l h tk (E' : Value → Shared → Prop), a ≤ k → k < a + (n : Int) → IntsAre ys l → LCg.NsObj oC m₂ → m₂ x = some (.int k t) → Fr h₀ L h m → News h₀ L h ((I, oI) :: (C, oC) :: (D, LCg.lst ys) :: news) → LCg.Off3 I C D news → ((@Ne Nat I C) ∧ (@Ne Nat I D) ∧ (@Ne Nat C D)) →
      wpAny (model prog w) A (isTrue ct (compEnvC scope cl C env) (eval ct (compEnvC scope cl C env))) (fun b s' => if b = true then wpAny (model prog w) A (eval elt (compEnvC scope cl C env)) (LCg.CompEnd h₀ L m { s with heap := h, toks := tk } I oI C oC D (LCg.lst ys) S (fun y news' => KCiEl news l (gsel p l k) y news')) E' s'
        else LCg.CompEnd h₀ L m { s with heap := h, toks := tk } I oI C oC D (LCg.lst ys) S (fun _ news' => KCiNo news l (gsel p l k) news') Value.none s') E' { s with heap := h, toks := tk })
    (fin : ∀ ys, IntsAre ys ((rangeKs a n).filter p) → Fin ys news) : LCt.CompRestT prog w A h₀ L m env ct elt x scope cl s S (fun i v => ∃ t, v = .int (a + (i : Int)) t) Fin n 0 [] news :=
  kci_range (gsel p) (fun k t I oI C oC D m₂ ys l h tk E' h1 h2 hy hC hx F N off ne _ => turn k t I oI C oC D m₂ ys l h tk E' h1 h2 hy hC hx F N off ne)
    (by unfold KPfDone; intro ys hy _; rw [gsel_fold] at hy; exact fin ys (by simpa using hy)) (gsel_grows p)
theorem step_len {E : Value → Shared → Prop} {D : Addr} {ys : List Value} {ns : List Int} {Q : Value → Shared → Prop} (N : News h₀ L s.heap ((D, LCg.lst ys) :: news)) (hi : IntsAre ys ns) (hb : ns.length < 2 ^ 60)
    (h : ∀ t k, Q (.int (ns.length : Int) t) { s with toks := k }) : wpAny (model prog w) A (call (.builtin "len") [.ref D]) Q E s := by
  have hl := hi.length
  refine len_list (News.isList N (.head _)) (by rw [List.size_toArray]; omega) ?_
  rw [List.size_toArray, hl]
  exact h _ _
end
theorem allNe {news : List (Addr × Obj)} {L d : Nat} (h : ∀ p ∈ news, p.1 < L) (hd : L < d) : ∀ p ∈ news, p.1 ≠ d := fun p hp => Nat.ne_of_lt (Nat.lt_trans (h p hp) hd)
theorem filter_le (p : Int → Bool) (a : Int) (n : Nat) : ((rangeKs a n).filter p).length ≤ n := by
  have := List.length_filter_le p (rangeKs a n)
  rw [rangeKs_length] at this
  exact this
end Mine
end
section
namespace Mine
local macro_rules | `(tactic| walk_at "call ref") => `(tactic| (k_here; k_dflt (refine' use (c_long _ _ _) ?k1 ?k2 ?k3 ?k4 ?k5 ?k6 ?k7 ?k8 ?_; (case k1 => k_asm); (case k2 => k_asm); (case k3 => k_asm); (case k4 => k_asm); (case k5 => k_asm); (case k6 => first | exact rfl | assumption); (case k7 => ktr_room); (case k8 => ktr_units); intro t9 h9 tk9 F9 N9; (try dsimp only); (try k_fold))))
def again (y m d : Int) (k : Int) : Bool := decide (WD (y + k) m d = WD y m d)
def leaps (y : Int) (n : Nat) : Nat := ((rangeKs y n).filter leapB).length
local macro_rules | `(tactic| walk_at "CompSrcT") => `(tactic| (k_here; k_dflt (refine' LCt.CompSrcT.range ?k1 ?k2 ?k3 ?k4 ?k5 ?k6 ?k7 ?_; (case k1 => exact rfl); (case k2 => k_asm); (case k3 => k_asm); (case k4 => assumption); (case k5 => exact small_one (by omega) (by omega) (by omega) (by omega)); (case k6 => exact rangeSize_nat _ _); (case k7 => rw [PySem.sizeLine_eq]; omega); intro g'; (refine' sel_range (leapB) (fun k' t' I' oI' C' oC' D' m' ys' l' h' tk' E' hlo' hhi' hI' hC' hx' F' N' off' ne' => ?_) (fun ys8 hys8 => ?_)); kcf_last)))
local macro_rules | `(tactic| walk_at "CompEnd") => `(tactic| (k_here; refine' LCg.CompEnd.intro ?k1 ?k2 _ (fun _ h => h) ?k3 trivial ?_; (case k1 => k_asm); (case k2 => k_asm); (case k3 => k_asm)))
local macro_rules | `(tactic| walk_at "KCiEl") => `(tactic| (k_here; refine' kci_el (gsel_yes ?k1) rfl rfl; (case k1 => assumption)))
local macro_rules | `(tactic| walk_at "KCiNo") => `(tactic| (k_here; refine' kci_no (gsel_no ?k1) rfl; (case k1 => assumption)))
local macro_rules | `(tactic| walk_at "call builtin:len") => `(tactic| (k_here; k_dflt (refine' step_len ?k1 ?k2 ?k3 ?_; (case k1 => k_asm); (case k2 => k_asm); (case k3 => (refine Nat.lt_of_le_of_lt (filter_le _ _ _) ?_; omega)); intro t8 k8; (try dsimp only))))
theorem c_days (w : World) (y k : Int) (t u : Tok) (hy : y.natAbs < 2 ^ 35) (h1 : 0 ≤ k) (h2 : k ≤ 40) : Gives w 97 3 [.int y t, .int k u] (fun t => .int (leaps y k.toNat) t) := by
  unfold Gives Ret; k_fill; w_top off; intros
  rename_i hret
  refine wpAny_call ?_
  k_dflt cell_enter
  k_steps
  refine cb_retI hret ?_ (by k_asm) (cb_drop (by k_asm) (fun p hp => List.mem_cons_of_mem _ hp))
  rw [show (y + k - y).toNat = k.toNat by omega]
  rfl
end Mine
end
section
namespace Mine
def lt3 (m : Int) : Int := if 2 < m then 0 else 1
theorem leap_iff (y : Int) : leapB y = true ↔ (y % 4 = 0 ∧ (y % 100 ≠ 0 ∨ y % 400 = 0)) := by unfold leapB; simp
theorem JD_step (y m d : Int) : JD (y + 1) m d = JD y m d + 365 + (if leapB (y + 1 - lt3 m) = true then 1 else 0) := by
  unfold JD adj lt3
  by_cases h : 2 < m
  · have h2 : ¬ m ≤ 2 := by omega
    simp only [h, h2, if_true, if_false, Int.sub_zero, leap_iff]
    split <;> split <;> omega
  · have h2 : m ≤ 2 := by omega
    simp only [h, h2, if_true, if_false, leap_iff]
    split <;> omega
theorem rangeKs_succ (a : Int) (n : Nat) : rangeKs a (n + 1) = rangeKs a n ++ [a + (n : Int)] := by
  unfold rangeKs; rw [List.range_succ, List.map_append]; rfl
theorem leaps_succ (z : Int) (n : Nat) : leaps z (n + 1) = leaps z n + (if leapB (z + n) = true then 1 else 0) := by
  unfold leaps
  rw [rangeKs_succ, List.filter_append, List.length_append]
  congr 1
  by_cases h : leapB (z + n) = true
  · simp [h]
  · simp [h]
theorem leaps_zero (z : Int) : leaps z 0 = 0 := rfl
theorem JD_add (y m d : Int) : ∀ n : Nat, JD (y + n) m d = JD y m d + 365 * n + leaps (y + 1 - lt3 m) n
  | 0 => by simp [leaps_zero]
  | n + 1 => by
    have h := JD_step (y + n) m d
    have e : y + ((n + 1 : Nat) : Int) = y + n + 1 := by omega
    have e2 : y + n + 1 - lt3 m = y + 1 - lt3 m + n := by omega
    rw [e, h, JD_add y m d n, leaps_succ, e2]
    split <;> omega
def leapN (n : Nat) : Bool := n % 4 == 0 && (n % 100 != 0 || n % 400 == 0)
def cnt (r : Nat) : Nat → Nat
  | 0 => 0
  | n + 1 => cnt r n + (if leapN (r + n) = true then 1 else 0)
theorem leapN_of (z : Int) (r n : Nat) (h : z % 400 = r) : leapB (z + n) = leapN (r + n) := by
  have q := leap_iff (z + n)
  have p : leapN (r + n) = true ↔ ((r + n) % 4 = 0 ∧ ((r + n) % 100 ≠ 0 ∨ (r + n) % 400 = 0)) := by unfold leapN; simp
  have e : leapB (z + n) = true ↔ leapN (r + n) = true := by rw [q, p]; omega
  cases h1 : leapB (z + n) <;> cases h2 : leapN (r + n) <;> simp_all
theorem leaps_cnt (z : Int) (r : Nat) (h : z % 400 = r) : ∀ n : Nat, leaps z n = cnt r n
  | 0 => rfl
  | n + 1 => by rw [leaps_succ, leaps_cnt z r h n, leapN_of z r n h]; rfl
theorem WD_add (y m d : Int) (n : Nat) : WD (y + n) m d = (WD y m d + n + leaps (y + 1 - lt3 m) n) % 7 := by
  unfold WD; rw [JD_add]; omega
theorem rest400 (z : Int) : ∃ r : Nat, r < 400 ∧ z % 400 = r := ⟨(z % 400).toNat, by omega, by omega⟩
/-- the first that p takes -/
def FirstSel (p : Int → Bool) (ks : List Int) (P : Int → Prop) : Prop := ∃ h r, ks.filter p = h :: r ∧ P h
theorem first_mem {p : Int → Bool} {ks : List Int} {h : Int} {r : List Int} (e : ks.filter p = h :: r) : h ∈ ks ∧ p h = true := by
  have : h ∈ ks.filter p := by rw [e]; exact List.mem_cons_self
  exact List.mem_filter.mp this
def headIn (l a : List Int) : Bool := match l with
  | [] => false
  | h :: _ => a.contains h
theorem headIn_of {l a : List Int} (h : headIn l a = true) : ∃ x r, l = x :: r ∧ x ∈ a := by
  cases l with
  | nil => cases h
  | cons x r => exact ⟨x, r, rfl, by simpa [headIn] using h⟩
def back7 (r : Nat) (k : Int) : Bool := (k.toNat + cnt r k.toNat) % 7 == 0
theorem early_all : ∀ r : Fin 400, headIn ((rangeKs 1 12).filter (back7 r.val)) [5, 6, 7, 11, 12] = true := by decide +kernel
theorem again_back (y m d : Int) (r : Nat) (h : (y + 1 - lt3 m) % 400 = r) (k : Int) (hk : 0 ≤ k) : again y m d k = back7 r k := by
  obtain ⟨n, rfl⟩ : ∃ n : Nat, k = n := ⟨k.toNat, by omega⟩
  unfold again back7
  rw [WD_add, leaps_cnt _ _ h, Int.toNat_natCast]
  have hw : WD y m d = WD y m d % 7 := by unfold WD; omega
  by_cases q : (n + cnt r n) % 7 = 0
  · rw [decide_eq_true (by omega)]; simp [q]
  · rw [decide_eq_false (by omega)]; simp [q]
def EarlyP (y m d h : Int) : Prop := (h = 5 ∨ h = 6 ∨ h = 7 ∨ h = 11 ∨ h = 12) ∧ JD (y + h) m d = JD y m d + 365 * h + (leaps (y + 1 - lt3 m) h.toNat : Int)
theorem early_fact (y m d : Int) : FirstSel (again y m d) (rangeKs 1 12) (EarlyP y m d) := by
  obtain ⟨r, hr, h⟩ := rest400 (y + 1 - lt3 m)
  have e : (rangeKs 1 12).filter (again y m d) = (rangeKs 1 12).filter (back7 r) :=
    List.filter_congr fun k hk => again_back y m d r h k (by have := mem_rangeKs hk; omega)
  obtain ⟨x, l, e2, hx⟩ := headIn_of (early_all ⟨r, hr⟩)
  have hx' : x = 5 ∨ x = 6 ∨ x = 7 ∨ x = 11 ∨ x = 12 := by simpa using hx
  refine ⟨x, l, e.trans e2, hx', ?_⟩
  obtain ⟨n, rfl⟩ : ∃ n : Nat, x = n := ⟨x.toNat, by omega⟩
  rw [JD_add, Int.toNat_natCast]
/-- the leap years' own day -/
theorem leap8_all : ∀ r : Fin 400, ((List.range 8).filter fun i => leapN (r.val + i)) ≠ [] := by decide +kernel
theorem leap8 (y : Int) : ∃ h l, (rangeKs y 8).filter leapB = h :: l ∧ leapB h = true ∧ y ≤ h ∧ h < y + 8 := by
  obtain ⟨r, hr, h⟩ := rest400 y
  have q := leap8_all ⟨r, hr⟩
  have e : (rangeKs y 8).filter leapB = ((List.range 8).filter fun i => leapN (r + i)).map fun (i : Nat) => y + (i : Int) := by
    unfold rangeKs
    rw [List.filter_map]
    congr 1
    exact List.filter_congr fun i _ => by simp only [Function.comp]; exact leapN_of y r i h
  cases q2 : (rangeKs y 8).filter leapB with
  | nil => rw [q2] at e; exact absurd (List.map_eq_nil_iff.mp e.symm) q
  | cons x l =>
    have hm := first_mem q2
    have hb := mem_rangeKs hm.1
    exact ⟨x, l, rfl, hm.2, hb.1, by simpa using hb.2⟩
def ks29 : List Int := [4, 8, 12, 16, 20, 24, 28, 32, 36, 40]
def again29 (y k : Int) : Bool := leapB (y + k) && decide (WD (y + k) 2 29 = WD y 2 29)
def back29 (r : Nat) (k : Int) : Bool := leapN (r + k.toNat) && ((k.toNat + cnt r k.toNat) % 7 == 0)
theorem late_all : ∀ r : Fin 400, leapN r.val = true → headIn (ks29.filter (back29 r.val)) [12, 28, 40] = true := by decide +kernel
theorem again_back29 (y : Int) (r : Nat) (h : y % 400 = r) (k : Int) (hk : 0 ≤ k) : again29 y k = back29 r k := by
  obtain ⟨n, rfl⟩ : ∃ n : Nat, k = n := ⟨k.toNat, by omega⟩
  unfold again29 back29
  rw [leapN_of y r n h, WD_add, show y + 1 - lt3 2 = y by unfold lt3; rw [if_neg (by decide)]; omega, leaps_cnt _ _ h, Int.toNat_natCast]
  have hw : WD y 2 29 = WD y 2 29 % 7 := by unfold WD; omega
  congr 1
  by_cases q : (n + cnt r n) % 7 = 0
  · rw [decide_eq_true (by omega)]; simp [q]
  · rw [decide_eq_false (by omega)]; simp [q]
theorem leaps_shift (y : Int) (n : Nat) : leaps (y + 1) n + (if leapB y = true then 1 else 0) = leaps y n + (if leapB (y + n) = true then 1 else 0) := by
  induction n with
  | zero => simp [leaps_zero]
  | succ n ih =>
    rw [leaps_succ, leaps_succ, show y + 1 + (n : Int) = y + ((n + 1 : Nat) : Int) by omega]
    omega
def LateP (y h : Int) : Prop := (h = 12 ∨ h = 28 ∨ h = 40) ∧ leapB (y + h) = true ∧ JD (y + h) 2 29 = JD y 2 29 + 365 * h + (leaps (y + 1) h.toNat : Int)
theorem late_fact (y : Int) (hy : leapB y = true) : FirstSel (again29 y) ks29 (LateP y) := by
  obtain ⟨r, hr, h⟩ := rest400 y
  have e : ks29.filter (again29 y) = ks29.filter (back29 r) :=
    List.filter_congr fun k hk => again_back29 y r h k (by unfold ks29 at hk; simp at hk; omega)
  have hl : leapN r = true := by
    have := leapN_of y r 0 h
    simp only [Int.natCast_zero, Int.add_zero, Nat.add_zero] at this
    rw [← this]; exact hy
  obtain ⟨x, l, e2, hx⟩ := headIn_of (late_all ⟨r, hr⟩ hl)
  have hx' : x = 12 ∨ x = 28 ∨ x = 40 := by simpa using hx
  have hm := first_mem (e.trans e2)
  have hly : leapB (y + x) = true := by
    have := hm.2
    unfold again29 at this
    exact (Bool.and_eq_true_iff.mp this).1
  refine ⟨x, l, e.trans e2, hx', hly, ?_⟩
  obtain ⟨n, rfl⟩ : ∃ n : Nat, x = n := ⟨x.toNat, by omega⟩
  rw [JD_add, Int.toNat_natCast, show y + 1 - lt3 2 = y by unfold lt3; rw [if_neg (by decide)]; omega]
  have q := leaps_shift y n
  rw [hy, hly] at q
  simp only [if_true] at q
  omega
end Mine
end
section
namespace Mine
section
variable {prog : Program} {w : World} {A : Around} {h₀ : Heap} {L : Addr} {m : Str → Option Value} {env : Env} {ct elt : Expr} {x : Str} {scope : Scope} {cl : List (Str × Addr)} {s : Shared} {S : List (Addr × Obj) → Prop} {Fin : List Value → List (Addr × Obj) → Prop} {news : List (Addr × Obj)}
theorem sel_first {n : Nat} {a : Int} {p : Int → Bool} {P : Int → Prop} (hp : FirstSel p (rangeKs a n) P)
    (turn : ∀ k t I oI C oC D m₂ ys l h tk (E' : Value → Shared → Prop), a ≤ k → k < a + (n : Int) → IntsAre ys l → LCg.NsObj oC m₂ → m₂ x = some (.int k t) → Fr h₀ L h m → News h₀ L h ((I, oI) :: (C, oC) :: (D, LCg.lst ys) :: news) → LCg.Off3 I C D news → ((@Ne Nat I C) ∧ (@Ne Nat I D) ∧ (@Ne Nat C D)) →
      wpAny (model prog w) A (isTrue ct (compEnvC scope cl C env) (eval ct (compEnvC scope cl C env))) (fun b s' => if b = true then wpAny (model prog w) A (eval elt (compEnvC scope cl C env)) (LCg.CompEnd h₀ L m { s with heap := h, toks := tk } I oI C oC D (LCg.lst ys) S (fun y news' => KCiEl news l (gsel p l k) y news')) E' s'
        else LCg.CompEnd h₀ L m { s with heap := h, toks := tk } I oI C oC D (LCg.lst ys) S (fun _ news' => KCiNo news l (gsel p l k) news') Value.none s') E' { s with heap := h, toks := tk })
    (fin : ∀ k t vs, P k → vs.length < n → Fin (.int k t :: vs) news) : LCt.CompRestT prog w A h₀ L m env ct elt x scope cl s S (fun i v => ∃ t, v = .int (a + (i : Int)) t) Fin n 0 [] news :=
  sel_range p turn (fun ys hys => by
    obtain ⟨k, r, e, hk⟩ := hp
    have hle := filter_le p a n
    rw [e] at hys hle
    cases hys with
    | cons _ t hr =>
      have := hr.length
      simp only [List.length_cons] at hle
      exact fin k t _ hk (by omega))
theorem step_truthy {E : Value → Shared → Prop} {D : Addr} {c : Nat} {v : Value} {vs : List Value} {Q : Bool → Shared → Prop} (N : News h₀ L s.heap news) (hm : (D, ({ cls := .type "list", data := .seq (v :: vs).toArray c } : Obj)) ∈ news) (hb : vs.length < 2 ^ 60)
    (h : ∀ k, Q true { s with toks := k }) : wpAny (model prog w) A (truthy (.ref D)) Q E s := by
  refine wpAny_truthy_list (News.isList N hm) (by rw [List.size_toArray, List.length_cons]; omega) ?_
  rw [show (!(v :: vs).toArray.isEmpty) = true from rfl]
  exact h _
theorem step_item0 {E : Value → Shared → Prop} {value slice : Expr} {D : Addr} {c : Nat} {v : Value} {vs : List Value} {u : Tok} {Q : Value → Shared → Prop} (N : News h₀ L s.heap news) (hm : (D, ({ cls := .type "list", data := .seq (v :: vs).toArray c } : Obj)) ∈ news) (h : Q v s)
    (hs : subscripted slice false (.ref D) (.int 0 u) = operate [.ref D, .int 0 u] (getItem (.ref D) (.int 0 u)) := by with_unfolding_all rfl) (hg : ∀ r, letTemporaryGo value (.ref D) r = pure () := by intro _; with_unfolding_all rfl) :
    wpAny (model prog w) A (subscriptTail value slice (.ref D) (.int 0 u)) Q E s :=
  item_list (News.isList N hm) (by decide) (by decide) (by rfl) h hs hg
theorem step_notin {E : Value → Shared → Prop} {D : Addr} {items : Array Value} {ns : List Int} {k : Int} {u : Tok} {Q : Value → Shared → Prop} (ht : IsTup s.heap D items) (hi : IntsAre items.toList ns) (hk : k ∈ ns)
    (h : Q (.bool false) s) : wpAny (model prog w) A (compareOp .NotIn (.int k u) (.ref D)) Q E s :=
  notin_tuple_ints ht hi (by
    have : (ns.any fun x => x == k) = true := List.any_eq_true.mpr ⟨k, hk, by simp⟩
    rw [this]; exact h)
end
theorem leaps_le (z : Int) (n : Nat) : leaps z n ≤ n := filter_le leapB z n
section
variable {prog : Program} {w : World} {A : Around} {E : Value → Shared → Prop} {s : Shared} {t u : Tok} {Q : Value → Shared → Prop}
theorem step_add2 {a z : Int} {n : Nat} (hA : A.handled = none) (h1 : a.natAbs < 2 ^ 49) (h2 : n ≤ 40) (h : ∀ t' k, Q (.float (hf (a + (leaps z n : Int))) t') { s with toks := k }) :
    wpAny (model prog w) A (binaryOp .Add (.float (hf a) t) (.int (leaps z n : Int) u)) Q E s :=
  have := leaps_le z n
  step_add hA (by omega) (by omega) h
theorem step_eq2 {a b z : Int} {n : Nat} (h1 : a.natAbs < 2 ^ 45) (h2 : b.natAbs < 2 ^ 49) (h3 : n ≤ 40) (h4 : a = b + (leaps z n : Int)) (h : Q (.bool true) s) : wpAny (model prog w) A (compareOp .Eq (.float (hf a) t) (.float (hf (b + (leaps z n : Int))) u)) Q E s :=
  have := leaps_le z n
  step_eq (by omega) (by omega) (by rw [decide_eq_true h4]; exact h)
end
theorem early_end {y m d h : Int} {b : Int} (hb : (2 < m ∧ b = 0) ∨ (¬ 2 < m ∧ b = 1)) (e : JD (y + h) m d = JD y m d + 365 * h + (leaps (y + 1 - lt3 m) h.toNat : Int)) : JD (y + h) m d = JD y m d + 365 * h + (leaps (y + 1 - b) h.toNat : Int) := by
  rw [e]
  unfold lt3
  rcases hb with ⟨h1, rfl⟩ | ⟨h1, rfl⟩
  · rw [if_pos h1]
  · rw [if_neg h1]
theorem again_yes {y m d k : Int} (h : (JD (y + k) m d + 1) % 7 = (JD y m d + 1) % 7) : again y m d k = true := decide_eq_true h
theorem again_no {y m d k : Int} (h : ¬ (JD (y + k) m d + 1) % 7 = (JD y m d + 1) % 7) : again y m d k = false := decide_eq_false h
end Mine
end
section
namespace Mine
local macro_rules | `(tactic| walk_at "call ref") => `(tactic| (k_here; k_dflt (refine' use (c_jd28 _ _ _ _ _ _ _ ?kp0 ?kp1 ?kp2 ?kp3 ?kp4) ?k1 ?k2 ?k3 ?k4 ?k5 ?k6 ?k7 ?k8 ?_; (case kp0 => (first | assumption | omega | exact Nat.lt_trans (JD_size (by omega) (by omega) (by omega) (by omega) (by omega)) (by decide))); (case kp1 => (first | assumption | omega | exact Nat.lt_trans (JD_size (by omega) (by omega) (by omega) (by omega) (by omega)) (by decide))); (case kp2 => (first | assumption | omega | exact Nat.lt_trans (JD_size (by omega) (by omega) (by omega) (by omega) (by omega)) (by decide))); (case kp3 => (first | assumption | omega | exact Nat.lt_trans (JD_size (by omega) (by omega) (by omega) (by omega) (by omega)) (by decide))); (case kp4 => (first | assumption | omega | exact Nat.lt_trans (JD_size (by omega) (by omega) (by omega) (by omega) (by omega)) (by decide))); (case k1 => k_asm); (case k2 => k_asm); (case k3 => k_asm); (case k4 => k_asm); (case k5 => k_asm); (case k6 => first | exact rfl | assumption); (case k7 => ktr_room); (case k8 => ktr_units); intro t9 h9 tk9 F9 N9; (try dsimp only); (try k_fold))))
local macro_rules | `(tactic| walk_at "call ref") => `(tactic| (k_here; k_dflt (refine' use (c_jwday _ _ _ ?kp0) ?k1 ?k2 ?k3 ?k4 ?k5 ?k6 ?k7 ?k8 ?_; (case kp0 => (first | assumption | omega | exact Nat.lt_trans (JD_size (by omega) (by omega) (by omega) (by omega) (by omega)) (by decide))); (case k1 => k_asm); (case k2 => k_asm); (case k3 => k_asm); (case k4 => k_asm); (case k5 => k_asm); (case k6 => first | exact rfl | assumption); (case k7 => ktr_room); (case k8 => ktr_units); intro t9 h9 tk9 F9 N9; (try dsimp only); (try k_fold))))
local macro_rules | `(tactic| walk_at "call ref") => `(tactic| (k_here; k_dflt (refine' use (c_days _ _ _ _ _ ?kp0 ?kp1 ?kp2) ?k1 ?k2 ?k3 ?k4 ?k5 ?k6 ?k7 ?k8 ?_; (case kp0 => (first | assumption | omega | exact Nat.lt_trans (JD_size (by omega) (by omega) (by omega) (by omega) (by omega)) (by decide))); (case kp1 => (first | assumption | omega | exact Nat.lt_trans (JD_size (by omega) (by omega) (by omega) (by omega) (by omega)) (by decide))); (case kp2 => (first | assumption | omega | exact Nat.lt_trans (JD_size (by omega) (by omega) (by omega) (by omega) (by omega)) (by decide))); (case k1 => k_asm); (case k2 => k_asm); (case k3 => k_asm); (case k4 => k_asm); (case k5 => k_asm); (case k6 => first | exact rfl | assumption); (case k7 => ktr_room); (case k8 => ktr_units); intro t9 h9 tk9 F9 N9; (try dsimp only); (try k_fold))))
local macro_rules | `(tactic| walk_at "binaryOp Sub float int") => `(tactic| (k_here; refine' step_sub rfl ?_; intro t8 k8; (try dsimp only)))
local macro_rules | `(tactic| walk_at "binaryOp Add float int") => `(tactic| (k_here; refine' step_add rfl ?k1 ?k2 ?_; (case k1 => omega); (case k2 => omega); intro t8 k8; (try dsimp only)))
local macro_rules | `(tactic| walk_at "call builtin:math.floor") => `(tactic| (k_here; first
  | (refine' step_floor rfl ?k1 ?k2 ?k3 ?_; (case k1 => decide); (case k2 => decide); (case k3 => omega); intro t8 k8; (try dsimp only))
  | (refine' step_month rfl ?k1 ?k2 ?k3 ?k4 ?k5 ?k6 ?_; (case k1 => omega); (case k2 => omega); (case k3 => omega); (case k4 => omega); (case k5 => omega); (case k6 => omega); intro t8 k8; (try dsimp only))))
local macro_rules | `(tactic| walk_at "call builtin:math.trunc") => `(tactic| (k_here; refine' step_trunc rfl ?k1 ?_; (case k1 => omega); intro t8 k8; (try dsimp only)))
local macro_rules | `(tactic| walk_at "compareOp Eq float float") => `(tactic| (k_here; refine' step_eq ?k1 ?k2 ?_; (case k1 => first | omega | exact Nat.lt_trans (JD_size (by omega) (by omega) (by omega) (by omega) (by omega)) (by decide)); (case k2 => omega); (try dsimp only)))
local macro_rules | `(tactic| walk_at "binaryOp Add float int") => `(tactic| (k_here; refine' step_add2 rfl ?k1 ?k2 ?_; (case k1 => omega); (case k2 => omega); intro t8 k8; (try dsimp only)))
local macro_rules | `(tactic| walk_at "compareOp Eq float float") => `(tactic| (k_here; refine' step_eq2 ?k1 ?k2 ?k3 ?k4 ?_; (case k1 => exact JD_size (by omega) (by omega) (by omega) (by omega) (by omega)); (case k2 => omega); (case k3 => omega); (case k4 => exact early_end (by first | exact .inl ⟨by assumption, rfl⟩ | exact .inr ⟨by assumption, rfl⟩) (by assumption)); (try dsimp only)))
local macro_rules | `(tactic| walk_at "CompSrcT") => `(tactic| (k_here; k_dflt (refine' LCt.CompSrcT.range ?k1 ?k2 ?k3 ?k4 ?k5 ?k6 ?k7 ?_; (case k1 => exact rfl); (case k2 => k_asm); (case k3 => k_asm); (case k4 => assumption); (case k5 => exact small_one (by omega) (by omega) (by omega) (by omega)); (case k6 => exact rangeSize_nat _ _); (case k7 => rw [PySem.sizeLine_eq]; omega); intro g'; (refine' sel_first ?kp (fun k' t' I' oI' C' oC' D' m' ys' l' h' tk' E' hlo' hhi' hI' hC' hx' F' N' off' ne' => ?_) (fun k8 t8 vs8 hP8 hv8 => ?_)); (case kp => show FirstSel _ (rangeKs 1 12) _; assumption); (all_goals (try (obtain ⟨hA8, hB8⟩ := hP8))); kcf_last)))
local macro_rules | `(tactic| walk_at "truthy ref") => `(tactic| (k_here; k_dflt (refine' step_truthy ?k1 ?k2 ?k3 ?_; (case k1 => k_asm); (case k2 => k_mem); (case k3 => omega); intro k8)))
local macro_rules | `(tactic| walk_at "subscriptTail") => `(tactic| (k_here; k_dflt (refine' step_item0 ?k1 ?k2 ?_ ?k3 ?k4; (case k1 => k_asm); (case k2 => k_mem); (case k3 => with_unfolding_all rfl); (case k4 => (intro _; with_unfolding_all rfl)))))
local macro_rules | `(tactic| walk_at "CompEnd") => `(tactic| (k_here; refine' LCg.CompEnd.intro ?k1 ?k2 _ (fun _ h => h) ?k3 trivial ?_; (case k1 => k_asm); (case k2 => k_asm); (case k3 => k_asm)))
local macro_rules | `(tactic| walk_at "KCiEl") => `(tactic| (k_here; refine' kci_el (gsel_yes ?k1) rfl rfl; (case k1 => exact again_yes (by assumption))))
local macro_rules | `(tactic| walk_at "KCiNo") => `(tactic| (k_here; refine' kci_no (gsel_no ?k1) rfl; (case k1 => exact again_no (by assumption))))
local macro_rules | `(tactic| walk_at "compareOp NotIn int ref") => `(tactic| (k_here; k_dflt (refine' step_notin (ns := [5, 6, 7, 11, 12]) ?k1 ?k2 ?k3 ?_; (case k1 => exact News.isTup (by k_asm) (by k_mem)); (case k2 => exact .cons _ _ (.cons _ _ (.cons _ _ (.cons _ _ (.cons _ _ (.nil)))))); (case k3 => (simp only [List.mem_cons, List.not_mem_nil, or_false]; assumption)))))
local macro_rules | `(tactic| k_all) => `(tactic| exact allNe (by assumption) (by omega))
theorem c_early (w : World) (y m d : Int) (t u v : Tok) (hy : y.natAbs < 2 ^ 34) (h1 : 1 ≤ m) (h2 : m ≤ 12) (h3 : 1 ≤ d) (h4 : d ≤ 28) : Gives w 102 8 [.int y t, .int m u, .int d v] (fun _ => .bool true) := by
  have hs := JD_size (y := y) (m := m) (d := d) (by omega) h1 h2 h3 (by omega)
  have hf := early_fact y m d
  unfold Gives Ret; k_fill; w_top off; intros
  rename_i hret
  refine wpAny_call ?_
  (k_dflt (refine' code_defC ?k1 ?k2 ?k3 ?k4 ?k5 ?kA ?kF ?kK ?k6 ?k7 ?k8 ?k9 ?kB ?kD ?_ ?c2 ?c3 ?c4; (case kA => exact rfl); (case kF => exact rfl); (case kK => assumption); (case k1 => k_asm); (case k2 => k_asm); (case k3 => k_asm); (case k4 => k_asm); (case k5 => k_asm); (case k6 => k_is); (case k7 => k_is); (case k8 => ktr_room); (case k9 => exact BindsTo.of_eq rfl); (case kB => exact rfl); (case kD => decide +kernel); (case c2 => exact rfl); (case c3 => exact rfl); (case c4 => exact rfl); k_whole; intro g' L' h' tk' cells' FG' F' N' Y' B' X' T' l1; (try k_lt l1); k_cells Y'; (try simp only [List.cons_append, List.nil_append] at N'); (try dsimp only); (try k_lift B'); (try k_fold)))
  k_steps
  all_goals first | exact cb_retB hret rfl (by k_asm) (by k_asm) | exact cb_retB hret rfl (by k_asm) (cb_drop (by k_asm) (fun p hp => by kcf_m))
end Mine
end
section
namespace Mine
def stepKs (a c : Int) (n : Nat) : List Int := (List.range n).map fun (i : Nat) => a + (i : Int) * c
theorem stepKs_succ (a c : Int) (n : Nat) : stepKs a c (n + 1) = stepKs a c n ++ [a + (n : Int) * c] := by
  unfold stepKs; rw [List.range_succ, List.map_append]; rfl
theorem ks29_is : stepKs 4 4 10 = ks29 := by decide +kernel
section
variable {prog : Program} {w : World} {A : Around} {E : Value → Shared → Prop} {s : Shared} {env : Env} {h₀ : Heap} {x : Str} {body : List Stmt} {Q : Flow → Shared → Prop}
def SelEnd (x : Str) (m₀ : Str → Option Value) (l : Addr) (pre post : List (Addr × Obj)) (ns : List Int) (m' : Str → Option Value) (news' : List (Addr × Obj)) : Prop :=
  (∀ y, y ≠ x → m' y = m₀ y) ∧ ∃ us nn, IntsAre us ns ∧ news' = pre ++ (l, W.listOf us.toArray nn) :: post
theorem sel_end {x : Str} {m₀ m' : Str → Option Value} {l : Addr} {pre post news' : List (Addr × Obj)} {ns : List Int} {us : List Value} {nn : Nat} (hm : ∀ y, y ≠ x → m' y = m₀ y) (hi : IntsAre us ns) (e : news' = pre ++ (l, W.listOf us.toArray nn) :: post) :
    SelEnd x m₀ l pre post ns m' news' := ⟨hm, us, nn, hi, e⟩
theorem krs_sel {I l : Addr} {a c : Int} {n nn₀ : Nat} {m₀ : Str → Option Value} {pre post : List (Addr × Obj)} (p : Int → Bool)
    (turn : ∀ (i : Nat) k t us ns nn h tk, i < n → k = a + (i : Int) * c → IntsAre us ns → us.length ≤ i → Fr h₀ env.locals h (fun y => if y = x then some (.int k t) else m₀ y) →
      News h₀ env.locals h ((I, krsIt (a + ((i + 1 : Nat) : Int) * c) ((n : Int) - ((i + 1 : Nat) : Int)) c) :: (pre ++ (l, W.listOf us.toArray nn) :: post)) →
      wpAny (model prog w) A (execs body env) (UnrPost h₀ env.locals { s with heap := h, toks := tk } I (krsIt (a + ((i + 1 : Nat) : Int) * c) ((n : Int) - ((i + 1 : Nat) : Int)) c)
        (fun m' news' => SelEnd x m₀ l pre post (gsel p ns k) m' news') Q) E { s with heap := h, toks := tk })
    (fin : ∀ v us nn h tk, IntsAre us ((stepKs a c n).filter p) → Fr h₀ env.locals h (fun y => if y = x then v else m₀ y) → News h₀ env.locals h (pre ++ (l, W.listOf us.toArray nn) :: post) → Q .next { s with heap := h, toks := tk }) :
    KrsRest prog w A E h₀ env x body Q s I a c n n 0 m₀ (pre ++ (l, W.listOf ([] : List Value).toArray nn₀) :: post) := by
  have same : ∀ (m' : Str → Option Value) (v : Option Value), (∀ y, y ≠ x → m' y = m₀ y) → (fun y => if y = x then v else m' y) = (fun y => if y = x then v else m₀ y) := fun m' v hm => funext fun y => by
    by_cases hy : y = x
    · rw [if_pos hy, if_pos hy]
    · rw [if_neg hy, if_neg hy, hm y hy]
  have key : ∀ (j i : Nat) m' us nn, i + j = n → (∀ y, y ≠ x → m' y = m₀ y) → IntsAre us ((stepKs a c i).filter p) → KrsRest prog w A E h₀ env x body Q s I a c n j i m' (pre ++ (l, W.listOf us.toArray nn) :: post) := by
    intro j
    induction j with
    | zero =>
      intro i m' us nn hi hm hu
      have : i = n := by omega
      subst this
      refine KrsRest.zero fun h tk F N => ?_
      refine fin (m' x) us nn h tk hu ?_ N
      have e : m' = fun y => if y = x then m' x else m₀ y := funext fun y => by
        by_cases hy : y = x
        · rw [if_pos hy, hy]
        · rw [if_neg hy, hm y hy]
      rw [← e]
      exact F
    | succ j ih =>
      intro i m' us nn hi hm hu
      refine KrsRest.succ (v := a + (i : Int) * c) rfl fun t h tk F N => ?_
      rw [same m' _ hm] at F
      have hlen : us.length ≤ i := by
        rw [hu.length]
        refine Nat.le_trans (List.length_filter_le _ _) ?_
        unfold stepKs; simp
      refine wpAny_mono (turn i _ t us _ nn h tk (by omega) rfl hu hlen F N) (fun f s₂ hq => ?_) fun _ _ e => e
      have ends : UnrEnd h₀ env.locals { s with heap := h, toks := tk } I (krsIt (a + ((i + 1 : Nat) : Int) * c) ((n : Int) - ((i + 1 : Nat) : Int)) c) (fun m' news' => SelEnd x m₀ l pre post (gsel p ((stepKs a c i).filter p) (a + (i : Int) * c)) m' news') s₂ →
          UnrEnd h₀ env.locals { s with heap := h, toks := tk } I (krsIt (a + ((i + 1 : Nat) : Int) * c) ((n : Int) - ((i + 1 : Nat) : Int)) c) (KrsRest prog w A E h₀ env x body Q s I a c n j (i + 1)) s₂ := by
        rintro ⟨h', tk', m2, news2, e, F', N', off, hm2, us2, nn2, hu2, rfl⟩
        refine ⟨h', tk', m2, _, e, F', N', off, ih (i + 1) m2 us2 nn2 (by omega) hm2 ?_⟩
        rw [stepKs_succ, List.filter_append]
        unfold gsel at hu2
        by_cases hp : p (a + (i : Int) * c) = true
        · rw [if_pos hp] at hu2
          simpa [hp] using hu2
        · rw [if_neg hp] at hu2
          simpa [hp] using hu2
      cases f with
      | ret v => exact hq
      | brk => exact hq
      | next => exact ends hq
      | cont => exact ends hq
  exact key n 0 m₀ [] nn₀ (by omega) (fun _ _ => rfl) .nil
theorem krs_first {I l : Addr} {a c : Int} {n nn₀ : Nat} {m₀ : Str → Option Value} {pre post : List (Addr × Obj)} {p : Int → Bool} {P : Int → Prop} (hp : FirstSel p (stepKs a c n) P)
    (turn : ∀ (i : Nat) k t us ns nn h tk, i < n → k = a + (i : Int) * c → IntsAre us ns → us.length ≤ i → Fr h₀ env.locals h (fun y => if y = x then some (.int k t) else m₀ y) →
      News h₀ env.locals h ((I, krsIt (a + ((i + 1 : Nat) : Int) * c) ((n : Int) - ((i + 1 : Nat) : Int)) c) :: (pre ++ (l, W.listOf us.toArray nn) :: post)) →
      wpAny (model prog w) A (execs body env) (UnrPost h₀ env.locals { s with heap := h, toks := tk } I (krsIt (a + ((i + 1 : Nat) : Int) * c) ((n : Int) - ((i + 1 : Nat) : Int)) c)
        (fun m' news' => SelEnd x m₀ l pre post (gsel p ns k) m' news') Q) E { s with heap := h, toks := tk })
    (fin : ∀ v k t vs nn h tk, P k → vs.length < n → Fr h₀ env.locals h (fun y => if y = x then v else m₀ y) → News h₀ env.locals h (pre ++ (l, W.listOf (.int k t :: vs).toArray nn) :: post) → Q .next { s with heap := h, toks := tk }) :
    KrsRest prog w A E h₀ env x body Q s I a c n n 0 m₀ (pre ++ (l, W.listOf ([] : List Value).toArray nn₀) :: post) :=
  krs_sel p turn fun v us nn h tk hu F N => by
    obtain ⟨k, r, e, hk⟩ := hp
    have hle : ((stepKs a c n).filter p).length ≤ n := Nat.le_trans (List.length_filter_le _ _) (by unfold stepKs; simp)
    rw [e] at hu hle
    cases hu with
    | cons _ t hr =>
      have := hr.length
      simp only [List.length_cons] at hle
      exact fin v k t _ nn h tk hk (by omega) F N
end
theorem sel_same {x : Str} {m₀ m' : Str → Option Value} {l : Addr} {pre post news' : List (Addr × Obj)} {p : Int → Bool} {ns : List Int} {k : Int} {us : List Value} {nn : Nat} (hm : ∀ y, y ≠ x → m' y = m₀ y) (hi : IntsAre us ns) (hp : p k = false) (e : news' = pre ++ (l, W.listOf us.toArray nn) :: post) :
    SelEnd x m₀ l pre post (gsel p ns k) m' news' := by rw [gsel_no hp]; exact sel_end hm hi e
theorem sel_push {x : Str} {m₀ m' : Str → Option Value} {l : Addr} {pre post news' : List (Addr × Obj)} {p : Int → Bool} {ns : List Int} {k : Int} {t : Tok} {us : List Value} {nn : Nat} (hm : ∀ y, y ≠ x → m' y = m₀ y) (hi : IntsAre us ns) (hp : p k = true) (e : news' = pre ++ (l, W.listOf (us.toArray.push (.int k t)) nn) :: post) :
    SelEnd x m₀ l pre post (gsel p ns k) m' news' := by
  rw [gsel_yes hp]
  refine sel_end (us := us ++ [.int k t]) (nn := nn) hm (IntsAre.append hi (.cons k t .nil)) ?_
  rw [e, List.push_toArray]
theorem neAll {d : Addr} {l : List (Addr × Obj)} (h : AllLt d l) : ∀ p ∈ l, p.1 ≠ d := tbn_neAll h
theorem late_sel {y : Int} (h : leapB y = true) : FirstSel (again29 y) (stepKs 4 4 10) (LateP y) := by rw [ks29_is]; exact late_fact y h
theorem again29_yes {y k : Int} (h1 : leapB (y + k) = true) (h : (JD (y + k) 2 29 + 1) % 7 = (JD y 2 29 + 1) % 7) : again29 y k = true := by
  unfold again29; rw [h1, Bool.true_and]; exact decide_eq_true h
theorem again29_no1 {y k : Int} (h1 : leapB (y + k) = false) : again29 y k = false := by
  unfold again29; rw [h1, Bool.false_and]
theorem again29_no2 {y k : Int} (h : ¬ (JD (y + k) 2 29 + 1) % 7 = (JD y 2 29 + 1) % 7) : again29 y k = false := by
  unfold again29; rw [show decide (WD (y + k) 2 29 = WD y 2 29) = false from decide_eq_false h, Bool.and_false]
end Mine
end
section
namespace Mine
local macro_rules | `(tactic| walk_at "call ref") => `(tactic| (k_here; k_dflt (refine' use (c_long _ _ _) ?k1 ?k2 ?k3 ?k4 ?k5 ?k6 ?k7 ?k8 ?_; (case k1 => k_asm); (case k2 => k_asm); (case k3 => k_asm); (case k4 => k_asm); (case k5 => k_asm); (case k6 => first | exact rfl | assumption); (case k7 => ktr_room); (case k8 => ktr_units); intro t9 h9 tk9 F9 N9; (try dsimp only); (try k_fold))))
local macro_rules | `(tactic| walk_at "call ref") => `(tactic| (k_here; k_dflt (refine' use (c_jd29 _ _ _ _ _ ?kp0 ?kp1) ?k1 ?k2 ?k3 ?k4 ?k5 ?k6 ?k7 ?k8 ?_; (case kp0 => (first | assumption | omega | exact Nat.lt_trans (JD_size (by omega) (by omega) (by omega) (by omega) (by omega)) (by decide))); (case kp1 => (first | assumption | omega | exact Nat.lt_trans (JD_size (by omega) (by omega) (by omega) (by omega) (by omega)) (by decide))); (case k1 => k_asm); (case k2 => k_asm); (case k3 => k_asm); (case k4 => k_asm); (case k5 => k_asm); (case k6 => first | exact rfl | assumption); (case k7 => ktr_room); (case k8 => ktr_units); intro t9 h9 tk9 F9 N9; (try dsimp only); (try k_fold))))
local macro_rules | `(tactic| walk_at "call ref") => `(tactic| (k_here; k_dflt (refine' use (c_jwday _ _ _ ?kp0) ?k1 ?k2 ?k3 ?k4 ?k5 ?k6 ?k7 ?k8 ?_; (case kp0 => (first | assumption | omega | exact Nat.lt_trans (JD_size (by omega) (by omega) (by omega) (by omega) (by omega)) (by decide))); (case k1 => k_asm); (case k2 => k_asm); (case k3 => k_asm); (case k4 => k_asm); (case k5 => k_asm); (case k6 => first | exact rfl | assumption); (case k7 => ktr_room); (case k8 => ktr_units); intro t9 h9 tk9 F9 N9; (try dsimp only); (try k_fold))))
local macro_rules | `(tactic| walk_at "call ref") => `(tactic| (k_here; k_dflt (refine' use (c_days _ _ _ _ _ ?kp0 ?kp1 ?kp2) ?k1 ?k2 ?k3 ?k4 ?k5 ?k6 ?k7 ?k8 ?_; (case kp0 => (first | assumption | omega | exact Nat.lt_trans (JD_size (by omega) (by omega) (by omega) (by omega) (by omega)) (by decide))); (case kp1 => (first | assumption | omega | exact Nat.lt_trans (JD_size (by omega) (by omega) (by omega) (by omega) (by omega)) (by decide))); (case kp2 => (first | assumption | omega | exact Nat.lt_trans (JD_size (by omega) (by omega) (by omega) (by omega) (by omega)) (by decide))); (case k1 => k_asm); (case k2 => k_asm); (case k3 => k_asm); (case k4 => k_asm); (case k5 => k_asm); (case k6 => first | exact rfl | assumption); (case k7 => ktr_room); (case k8 => ktr_units); intro t9 h9 tk9 F9 N9; (try dsimp only); (try k_fold))))
local macro_rules | `(tactic| walk_at "binaryOp Sub float int") => `(tactic| (k_here; refine' step_sub rfl ?_; intro t8 k8; (try dsimp only)))
local macro_rules | `(tactic| walk_at "binaryOp Add float int") => `(tactic| (k_here; refine' step_add rfl ?k1 ?k2 ?_; (case k1 => omega); (case k2 => omega); intro t8 k8; (try dsimp only)))
local macro_rules | `(tactic| walk_at "call builtin:math.floor") => `(tactic| (k_here; first
  | (refine' step_floor rfl ?k1 ?k2 ?k3 ?_; (case k1 => decide); (case k2 => decide); (case k3 => omega); intro t8 k8; (try dsimp only))
  | (refine' step_month rfl ?k1 ?k2 ?k3 ?k4 ?k5 ?k6 ?_; (case k1 => omega); (case k2 => omega); (case k3 => omega); (case k4 => omega); (case k5 => omega); (case k6 => omega); intro t8 k8; (try dsimp only))))
local macro_rules | `(tactic| walk_at "call builtin:math.trunc") => `(tactic| (k_here; refine' step_trunc rfl ?k1 ?_; (case k1 => omega); intro t8 k8; (try dsimp only)))
local macro_rules | `(tactic| walk_at "compareOp Eq float float") => `(tactic| (k_here; refine' step_eq ?k1 ?k2 ?_; (case k1 => first | omega | exact Nat.lt_trans (JD_size (by omega) (by omega) (by omega) (by omega) (by omega)) (by decide)); (case k2 => omega); (try dsimp only)))
local macro_rules | `(tactic| walk_at "binaryOp Add float int") => `(tactic| (k_here; refine' step_add2 rfl ?k1 ?k2 ?_; (case k1 => omega); (case k2 => omega); intro t8 k8; (try dsimp only)))
local macro_rules | `(tactic| walk_at "compareOp Eq float float") => `(tactic| (k_here; refine' step_eq2 ?k1 ?k2 ?k3 ?k4 ?_; (case k1 => exact JD_size (by omega) (by omega) (by omega) (by omega) (by omega)); (case k2 => omega); (case k3 => omega); (case k4 => assumption); (try dsimp only)))
local macro_rules | `(tactic| walk_at "CompSrcT") => `(tactic| (k_here; k_dflt (refine' LCt.CompSrcT.range (n := 8) ?k1 ?k2 ?k3 ?k4 ?k5 ?k6 ?k7 ?_; (case k1 => exact rfl); (case k2 => k_asm); (case k3 => k_asm); (case k4 => assumption); (case k5 => exact small_one (by omega) (by omega) (by omega) (by omega)); (case k6 => (rw [rangeSize_nat]; omega)); (case k7 => rw [PySem.sizeLine_eq]; omega); intro g'; (refine' sel_first ?kp (fun k' t' I' oI' C' oC' D' m' ys' l' h' tk' E' hlo' hhi' hI' hC' hx' F' N' off' ne' => ?_) (fun k8 t8 vs8 hP8 hv8 => ?_)); (case kp => skip; assumption); (all_goals (try (obtain ⟨hA8, hB8⟩ := hP8))); kcf_last)))
local macro_rules | `(tactic| walk_at "truthy ref") => `(tactic| (k_here; k_dflt (refine' step_truthy ?k1 ?k2 ?k3 ?_; (case k1 => k_asm); (case k2 => k_mem); (case k3 => omega); intro k8)))
local macro_rules | `(tactic| walk_at "subscriptTail") => `(tactic| (k_here; k_dflt (refine' step_item0 ?k1 ?k2 ?_ ?k3 ?k4; (case k1 => k_asm); (case k2 => k_mem); (case k3 => with_unfolding_all rfl); (case k4 => (intro _; with_unfolding_all rfl)))))
local macro_rules | `(tactic| walk_at "CompEnd") => `(tactic| (k_here; refine' LCg.CompEnd.intro ?k1 ?k2 _ (fun _ h => h) ?k3 trivial ?_; (case k1 => k_asm); (case k2 => k_asm); (case k3 => k_asm)))
local macro_rules | `(tactic| walk_at "KCiEl") => `(tactic| (k_here; refine' kci_el (gsel_yes ?k1) rfl rfl; (case k1 => assumption)))
local macro_rules | `(tactic| walk_at "KCiNo") => `(tactic| (k_here; refine' kci_no (gsel_no ?k1) rfl; (case k1 => assumption)))
local macro_rules | `(tactic| walk_at "compareOp NotIn int ref") => `(tactic| (k_here; k_dflt (refine' step_notin (ns := [12, 28, 40]) ?k1 ?k2 ?k3 ?_; (case k1 => exact News.isTup (by k_asm) (by k_mem)); (case k2 => exact .cons _ _ (.cons _ _ (.cons _ _ (.nil)))); (case k3 => (simp only [List.mem_cons, List.not_mem_nil, or_false]; assumption)))))
local macro_rules | `(tactic| walk_at "last pyIter ref") => `(tactic| ((with_reducible show wpAny _ _ (pyIter (Value.ref _)) (fun it s₂ => LoopAtV _ _ _ _ _ _ _ _ _ it s₂) _ _); k_here; (rename Fr _ _ _ _ => lF'); (rename News _ _ _ _ => lN'); (with_unfolding_all refine krs_iter (n := 10) (by rfl) (by assumption) (by first | decide | rfl) (by first | decide | rfl) lF' lN' ?_); clear lF' lN'; intro i9 l9; (replace l9 := allLt_of l9; simp only [AllLt, and_true] at l9); k_dflt (refine' krs_first (pre := [_]) (late_sel ?kh) (fun i8 k8 t8 us8 ns8 nn8 h8 tk8 hi8 hk8 hu8 hl8 F8 N8 => ?_) (fun v8 k8 t8 vs8 nn8 h8 tk8 hP8 hv8 F8 N8 => ?_); (case kh => assumption)); (all_goals (try (unfold LateP at hP8; obtain ⟨hA8, hB8, hC8⟩ := hP8))); (all_goals (try simp only [List.cons_append, List.nil_append] at N8)); (all_goals (try k_fold))))
local macro_rules | `(tactic| walk_at "UnrEnd") => `(tactic| (k_here; refine' UnrEnd.intro ?k1 ?k2 _ (fun _ h => h) ?k3 ?_; (case k1 => k_asm); (case k2 => k_asm); (case k3 => k_all)))
local macro_rules | `(tactic| walk_at "SelEnd") => `(tactic| (k_here; first
  | (exact sel_same (fun _ hy => if_neg hy) (by assumption) (by first | exact again29_no1 (by assumption) | exact again29_no2 (by assumption)) rfl)
  | (exact sel_push (fun _ hy => if_neg hy) (by assumption) (again29_yes (by assumption) (by assumption)) rfl)))
local macro_rules | `(tactic| k_all) => `(tactic| first | exact neAll (by assumption) | exact neAll (And.right (by assumption)) | exact neAll (And.right (And.right (by assumption))) | exact neAll (And.right (And.right (And.right (by assumption)))))
theorem c_late (w : World) (y : Int) (t : Tok) (hy : y.natAbs < 2 ^ 34) : Gives w 107 8 [.int y t] (fun _ => .bool true) := by
  have hf : FirstSel leapB (rangeKs y 8) (fun h => ((y ≤ h ∧ h < y + 8) ∧ (JD h 2 29).natAbs < 2 ^ 45) ∧ leapB h = true) := by
    obtain ⟨h, l, e, h1, h2, h3⟩ := leap8 y
    exact ⟨h, l, e, ⟨⟨h2, h3⟩, JD_size (by omega) (by decide) (by decide) (by decide) (by decide)⟩, h1⟩
  unfold Gives Ret; k_fill; w_top off; intros
  rename_i hret
  refine wpAny_call ?_
  k_dflt cell_enter
  k_steps
  all_goals first | exact cb_retB hret rfl (by k_asm) (by k_asm) | exact cb_retB hret rfl (by k_asm) (cb_drop (by k_asm) (fun p hp => by kcf_m))
end Mine
end
section
namespace Mine
theorem three_of {ws : List Value} {ns : List Int} (h : IntsAre ws (List.take 3 (List.take 3 ns ++ [0, 0, 0]))) : ∃ a b c t1 t2 t3, ws = [.int a t1, .int b t2, .int c t3] := by
  have key : ∃ a b c : Int, List.take 3 (List.take 3 ns ++ [0, 0, 0]) = [a, b, c] := by
    match ns with
    | [] => exact ⟨0, 0, 0, rfl⟩
    | [a] => exact ⟨a, 0, 0, rfl⟩
    | [a, b] => exact ⟨a, b, 0, rfl⟩
    | a :: b :: c :: r => exact ⟨a, b, c, rfl⟩
  obtain ⟨a, b, c, e⟩ := key
  rw [e] at h
  cases h with
  | cons _ t1 h => cases h with
    | cons _ t2 h => cases h with
      | cons _ t3 h => cases h with
        | nil => exact ⟨a, b, c, t1, t2, t3, rfl⟩
theorem within_bound (n : Int) : (within n).natAbs ≤ 1000000000 := by unfold within; split <;> omega
theorem use_within {w : World} {n : Int} {tn un' : Tok}
    {loose : List Str} {mean : ExcName → Option Value} {mg mb : Str → Option Value} {news : List (Addr × Obj)} {dp un : Nat} {gd : Option (List Code)} {cn : Str} {cs : Scope} {a : Addr} {ccd : Value} {cl : List (Str × Addr)} {outer : List Env} {A₀ : Around} {base h₀ : Heap} {L : Addr} {m : Str → Option Value} {s : Shared} {Q E : Value → Shared → Prop}
    (B : Below A₀ base outer h₀) (F : Fr h₀ L s.heap m) (X : (hd.heap_39 w.params).In h₀) (N : News h₀ L s.heap news) (T : Top hd.view_39 loose mean mg mb h₀) (hk : cs.kind = .function)
    (h1 : dp + 1 < recursionLimit) (h2 : un + 8 * 1 < cLine) (r : ∀ k : Int, k.natAbs ≤ 1000000000 → ∀ (t : Tok) (h' : Heap) (tk' : Nat), Fr h₀ L h' m → News h₀ L h' news → Q (.int k t) { s with heap := h', toks := tk' }) :
    wpAny (model PySem.Challenge.rw_ad5012_01.row.prog w) (ktrTop dp un gd cn cs L a ccd cl outer) (call (.ref 85) [.int n tn, .int 1000000000 un']) Q E s :=
  use (c_within w n tn un') B F X N T hk h1 h2 (fun t h' tk' F N => r _ (within_bound n) t h' tk' F N)
section
variable {prog : Program} {w : World} {A : Around} {h₀ : Heap} {L : Addr} {m : Str → Option Value} {env : Env} {ct elt : Expr} {x : Str} {scope : Scope} {cl : List (Str × Addr)} {s : Shared} {S : List (Addr × Obj) → Prop} {Fin : List Value → List (Addr × Obj) → Prop} {news : List (Addr × Obj)} {E : Value → Shared → Prop}
theorem step_mod {a b : Int} {t u : Tok} {Q : Value → Shared → Prop} (hb : 0 < b) (h : ∀ r k t', 0 ≤ r → r < b → Q (.int r t') { s with toks := k }) :
    wpAny (model prog w) A (binaryOp .Mod (.int a t) (.int b u)) Q E s :=
  mod_int' (by omega) (h _ _ _ (by rw [fm a (by omega)]; exact Int.emod_nonneg _ (by omega)) (by rw [fm a (by omega)]; exact Int.emod_lt_of_pos _ hb))
theorem sel_split {n : Nat} {a : Int} (p : Int → Bool)
    (turn : ∀ k t I oI C oC D m₂ ys l h tk (E' : Value → Shared → Prop), a ≤ k → k < a + (n : Int) → IntsAre ys l → LCg.NsObj oC m₂ → m₂ x = some (.int k t) → Fr h₀ L h m → News h₀ L h ((I, oI) :: (C, oC) :: (D, LCg.lst ys) :: news) → LCg.Off3 I C D news → ((@Ne Nat I C) ∧ (@Ne Nat I D) ∧ (@Ne Nat C D)) →
      wpAny (model prog w) A (isTrue ct (compEnvC scope cl C env) (eval ct (compEnvC scope cl C env))) (fun b s' => if b = true then wpAny (model prog w) A (eval elt (compEnvC scope cl C env)) (LCg.CompEnd h₀ L m { s with heap := h, toks := tk } I oI C oC D (LCg.lst ys) S (fun y news' => KCiEl news l (gsel p l k) y news')) E' s'
        else LCg.CompEnd h₀ L m { s with heap := h, toks := tk } I oI C oC D (LCg.lst ys) S (fun _ news' => KCiNo news l (gsel p l k) news') Value.none s') E' { s with heap := h, toks := tk })
    (fin1 : ∀ k t vs, vs.length < n → Fin (.int k t :: vs) news)
    (fin2 : (∀ i : Nat, i < n → p (a + i) = false) → Fin [] news) : LCt.CompRestT prog w A h₀ L m env ct elt x scope cl s S (fun i v => ∃ t, v = .int (a + (i : Int)) t) Fin n 0 [] news :=
  sel_range p turn (fun ys hys => by
    have hle := filter_le p a n
    cases e : (rangeKs a n).filter p with
    | nil =>
      rw [e] at hys
      cases hys
      refine fin2 fun i hi => ?_
      have := List.filter_eq_nil_iff.mp e (a + i) (List.mem_map.mpr ⟨i, List.mem_range.mpr hi, rfl⟩)
      simpa using this
    | cons k r =>
      rw [e] at hys hle
      cases hys with
      | cons _ t hr =>
        have := hr.length
        simp only [List.length_cons] at hle
        exact fin1 k t _ (by omega))
theorem map_range {n : Nat} {a : Int} (g : Int → Int)
    (turn : ∀ k t I oI C oC D m₂ ys h tk (E' : Value → Shared → Prop), a ≤ k → k < a + (n : Int) → LCg.NsObj oC m₂ → m₂ x = some (.int k t) → Fr h₀ L h m → News h₀ L h ((I, oI) :: (C, oC) :: (D, LCg.lst ys) :: news) → LCg.Off3 I C D news → ((@Ne Nat I C) ∧ (@Ne Nat I D) ∧ (@Ne Nat C D)) →
      wpAny (model prog w) A (eval elt (compEnvC scope cl C env)) (LCg.CompEnd h₀ L m { s with heap := h, toks := tk } I oI C oC D (LCg.lst ys) S (fun y news' => KCfEl news (g k) y news')) E' { s with heap := h, toks := tk })
    (fin : ∀ ys, IntsAre ys ((rangeKs a n).map g) → Fin ys news) : LCg.CompRest prog w A h₀ L m env elt x scope cl s S (fun i v => ∃ t, v = .int (a + (i : Int)) t) Fin n 0 [] news :=
  kcf_range g (fun k t I oI C oC D m₂ ys h tk E' h1 h2 hC hx F N off ne _ => turn k t I oI C oC D m₂ ys h tk E' h1 h2 hC hx F N off ne) (by unfold KPfDone; exact fin)
theorem step_truthy0 {D : Addr} {c : Nat} {Q : Bool → Shared → Prop} (N : News h₀ L s.heap news) (hm : (D, ({ cls := .type "list", data := .seq ([] : List Value).toArray c } : Obj)) ∈ news)
    (h : ∀ k, Q false { s with toks := k }) : wpAny (model prog w) A (truthy (.ref D)) Q E s :=
  wpAny_truthy_list (News.isList N hm) (by decide) (h _)
end
def skipB (o : Int) : Bool := decide (o.fmod 100 = 0 ∧ o.fmod 400 ≠ 0)
theorem skip_yes {o : Int} (h1 : o.fmod 100 = 0) (h2 : o.fmod 400 ≠ 0) : skipB o = true := decide_eq_true ⟨h1, h2⟩
theorem skip_no1 {o : Int} (h1 : ¬ o.fmod 100 = 0) : skipB o = false := decide_eq_false fun h => h1 h.1
theorem skip_no2 {o : Int} (h2 : o.fmod 400 = 0) : skipB o = false := decide_eq_false fun h => h.2 h2
theorem skip_no3 {o : Int} (h2 : ¬ o.fmod 400 ≠ 0) : skipB o = false := decide_eq_false fun h => h2 h.2
end Mine
end
section
namespace Mine
theorem noskip {o : Int} (h : skipB o = false) : leapB o = decide (o % 4 = 0) := by
  unfold skipB at h
  rw [fm _ (by decide), fm _ (by decide)] at h
  have h' := of_decide_eq_false h
  have q := leap_iff o
  by_cases h4 : o % 4 = 0
  · rw [decide_eq_true h4]; exact q.mpr (by omega)
  · rw [decide_eq_false h4]
    cases e : leapB o
    · rfl
    · exact absurd (q.mp e).1 h4
def cnt4 (r : Nat) : Nat → Nat
  | 0 => 0
  | n + 1 => cnt4 r n + (if (r + n) % 4 = 0 then 1 else 0)
def wheel (w r k : Nat) : Nat := (w + k + cnt4 r k) % 7
theorem leaps4 {z : Int} {r : Nat} (hr : z % 4 = r) : ∀ n : Nat, (∀ i : Nat, i < n → skipB (z + i) = false) → leaps z n = cnt4 r n
  | 0, _ => rfl
  | n + 1, h => by
    rw [leaps_succ, leaps4 hr n (fun i hi => h i (by omega)), noskip (h n (by omega))]
    show _ = cnt4 r n + _
    congr 1
    by_cases q : (r + n) % 4 = 0
    · rw [if_pos q, if_pos (decide_eq_true (by omega))]
    · rw [if_neg q, if_neg (by simp; omega)]
theorem wd_wheel (y m d : Int) (h : ∀ i : Nat, i < 29 → skipB (y + i) = false) : ∃ w r : Nat, w < 7 ∧ r < 4 ∧ (y + 1 - lt3 m) % 4 = r ∧ ∀ k : Nat, k < 29 → WD (y + k) m d = (wheel w r k : Int) := by
  have hz : lt3 m = 0 ∨ lt3 m = 1 := by unfold lt3; split <;> simp
  refine ⟨(WD y m d).toNat, ((y + 1 - lt3 m) % 4).toNat, by unfold WD; omega, by omega, by omega, fun k hk => ?_⟩
  rw [WD_add, leaps4 (r := ((y + 1 - lt3 m) % 4).toNat) (by omega) k (fun i hi => by
    rcases hz with e | e
    · have := h (i + 1) (by omega)
      rw [e, show y + 1 - 0 + (i : Int) = y + ((i + 1 : Nat) : Int) by omega]; exact this
    · rw [e, show y + 1 - 1 + (i : Int) = y + (i : Int) by omega]; exact h i (by omega))]
  unfold wheel
  have : 0 ≤ WD y m d := by unfold WD; omega
  omega
def toldN (w r : Nat) : List Int := (List.range 29).map fun k => (wheel w r k : Int)
def weekN (w r k : Nat) : Int := if wheel w r k = 3 ∨ (wheel w r k = 2 ∧ (r + k) % 4 = 0) then 53 else 52
def weeksN (w r : Nat) : List Int := (List.range 28).map (weekN w r)
theorem told_is (y m d : Int) (h : ∀ i : Nat, i < 29 → skipB (y + i) = false) : ∃ w r : Nat, w < 7 ∧ r < 4 ∧ (rangeKs 0 29).map (fun k => (JD (y + k) m d + 1) % 7) = toldN w r := by
  obtain ⟨w, r, hw, hr, _, hk⟩ := wd_wheel y m d h
  refine ⟨w, r, hw, hr, ?_⟩
  unfold rangeKs toldN
  rw [List.map_map]
  refine List.map_congr_left fun k hk' => ?_
  have := hk k (List.mem_range.mp hk')
  simp only [Function.comp, Int.zero_add]
  exact this
theorem weeks_is (y : Int) (h : ∀ i : Nat, i < 29 → skipB (y + i) = false) : ∃ w r : Nat, w < 7 ∧ r < 4 ∧ (rangeKs 0 28).map (fun k => weeks (y + k)) = weeksN w r := by
  obtain ⟨w, r, hw, hr, hr2, hk⟩ := wd_wheel y 1 1 h
  refine ⟨w, r, hw, hr, ?_⟩
  unfold rangeKs weeksN
  rw [List.map_map]
  refine List.map_congr_left fun k hk' => ?_
  have hk28 := List.mem_range.mp hk'
  have e := hk k (by omega)
  have e2 := noskip (h k (by omega))
  simp only [Function.comp, Int.zero_add]
  unfold weeks weekN
  rw [e, e2]
  have hlt : lt3 1 = 1 := by unfold lt3; rw [if_neg (by decide)]
  rw [hlt] at hr2
  have i1 : ((wheel w r k : Nat) : Int) = 3 ↔ wheel w r k = 3 := by omega
  have i2 : ((wheel w r k : Nat) : Int) = 2 ↔ wheel w r k = 2 := by omega
  have i3 : (y + (k : Int)) % 4 = 0 ↔ (r + k) % 4 = 0 := by omega
  simp only [decide_eq_true_eq, i1, i2, i3]
end Mine
namespace Mine
theorem y29 {a k : Int} (h1 : 0 ≤ k) (h2 : k < 0 + ((29 : Nat) : Int)) : (1970 + within a + k).natAbs < 2 ^ 35 := by
  have := within_bound a; omega
theorem y28 {a k : Int} (h1 : 0 ≤ k) (h2 : k < 0 + ((28 : Nat) : Int)) : (1970 + within a + k).natAbs < 2 ^ 35 := by
  have := within_bound a; omega
theorem jd29 {a k r q : Int} (h1 : 0 ≤ k) (h2 : k < 0 + ((29 : Nat) : Int)) (r1 : 0 ≤ r) (r2 : r < 12) (q1 : 0 ≤ q) (q2 : q < 28) : (JD (1970 + within a + k) (1 + r) (1 + q)).natAbs < 2 ^ 50 :=
  Nat.lt_trans (JD_size (y29 h1 h2) (by omega) (by omega) (by omega) (by omega)) (by decide)
theorem wheel28 : ∀ w : Fin 7, ∀ r : Fin 4, wheel w.val r.val 28 = wheel w.val r.val 0 := by decide +kernel
theorem end_again {y m d : Int} (h : ∀ i : Nat, i < 29 → skipB (y + i) = false) (e : (JD (y + (0 + 28)) m d + 1) % 7 ≠ (JD (y + (0 + 0)) m d + 1) % 7) : False := by
  obtain ⟨w, r, hw, hr, _, hk⟩ := wd_wheel y m d h
  have h28 := hk 28 (by decide)
  have h0 := hk 0 (by decide)
  rw [wheel28 ⟨w, hw⟩ ⟨r, hr⟩] at h28
  exact e (h28.trans h0.symm)
theorem counts4 : ∀ w : Fin 7, ∀ r : Fin 4, (List.map (fun k => ((List.count k (List.take 28 (toldN w.val r.val)) : Nat) : Int)) (rangeKs 0 7)) = [4, 4, 4, 4, 4, 4, 4] := by decide +kernel
theorem end_counts {y m d : Int} (h : ∀ i : Nat, i < 29 → skipB (y + i) = false)
    (e : ¬ List.map (fun k' => ((List.count k' (List.take 28 (List.map (fun k' => (JD (y + k') m d + 1) % 7) (rangeKs 0 29))) : Nat) : Int)) (rangeKs 0 7) = [4, 4, 4, 4, 4, 4, 4]) : False := by
  obtain ⟨w, r, hw, hr, hk⟩ := told_is y m d h
  rw [hk] at e
  exact e (counts4 ⟨w, hw⟩ ⟨r, hr⟩)
end Mine
end
section
namespace Mine
def W28 : List Int := [52, 52, 52, 52, 52, 52, 52, 52, 52, 52, 52, 52, 52, 52, 52, 52, 52, 52, 52, 52, 52, 52, 52, 53, 53, 53, 53, 53]
theorem perm28 : ∀ w : Fin 7, ∀ r : Fin 4, (weeksN w.val r.val).isPerm W28 = true := by decide +kernel
theorem sorted_eq : ∀ (a b : List Int), a.Perm b → a.Pairwise (· ≤ ·) → b.Pairwise (· ≤ ·) → a = b
  | [], b, p, _, _ => (List.nil_perm.mp p).symm
  | x :: r, [], p, _, _ => absurd p.length_eq (by simp)
  | x :: r, y :: q, p, oa, ob => by
    have hx : x ∈ y :: q := p.mem_iff.mp List.mem_cons_self
    have hy : y ∈ x :: r := p.mem_iff.mpr List.mem_cons_self
    have h1 : y ≤ x := by
      rcases List.mem_cons.mp hx with e | h
      · omega
      · exact (List.pairwise_cons.mp ob).1 x h
    have h2 : x ≤ y := by
      rcases List.mem_cons.mp hy with e | h
      · omega
      · exact (List.pairwise_cons.mp oa).1 y h
    have e : x = y := by omega
    subst e
    rw [sorted_eq r q (List.perm_cons x |>.mp p) (List.pairwise_cons.mp oa).2 (List.pairwise_cons.mp ob).2]
theorem sorted_weeks {y : Int} (h : ∀ i : Nat, i < 29 → skipB (y + i) = false) {l : List Int} (p : l.Perm (List.map (fun k => weeks (y + k)) (rangeKs 0 28))) (o : l.Pairwise (· ≤ ·)) : l = W28 := by
  obtain ⟨w, r, hw, hr, e⟩ := weeks_is y h
  rw [e] at p
  exact sorted_eq _ _ (p.trans (List.isPerm_iff.mp (perm28 ⟨w, hw⟩ ⟨r, hr⟩))) o (by unfold W28; decide)
section
variable {prog : Program} {w : World} {A : Around} {E : Value → Shared → Prop} {s : Shared} {h₀ : Heap} {L l : Addr} {m : Str → Option Value} {news : List (Addr × Obj)} {vs : List Value} {Q : Value → Shared → Prop}
theorem step_sorted {y : Int} {c : Nat} (F : Fr h₀ L s.heap m) (N : News h₀ L s.heap news) (hm : (l, ({ cls := .type "list", data := .seq vs.toArray c } : Obj)) ∈ news) (hi : IntsAre vs (List.map (fun k => weeks (y + k)) (rangeKs 0 28))) (hno : ∀ i : Nat, i < 29 → skipB (y + i) = false)
    (h : ∀ D vs' c h', Fr h₀ L h' m → News h₀ L h' ((D, W.listOf vs'.toArray c) :: news) → (∀ q ∈ news, q.1 < D) → IntsAre vs' W28 → Q (.ref D) { s with heap := h' }) :
    wpAny (model prog w) A (call (.builtin "sorted") [.ref l]) Q E s :=
  kso_sorted F N (News.isList N hm) hi (by rw [List.length_map, rangeKs_length]; decide) fun D vs' ns' c h' F' N' hl hi' _ p o _ => h D vs' c h' F' N' hl (by rw [sorted_weeks hno p o] at hi'; exact hi')
theorem step_eqlist {a b : Addr} {us : List Value} {ns ms : List Int} (hl : s.heap.IsList a vs.toArray) (hi : IntsAre vs ns) (hl' : s.heap.IsList b us.toArray) (hi' : IntsAre us ms) (hu : A.units + 64 < cLine) (e : ns = ms)
    (h : Q (.bool true) s) : wpAny (model prog w) A (compareOp .Eq (.ref a) (.ref b)) Q E s :=
  eq_intsK hl hi hl' hi' hu (by rw [decide_eq_true e]; exact h)
end
end Mine
end
section
namespace Mine
local macro_rules | `(tactic| walk_at "call ref") => `(tactic| (k_here; k_dflt (refine' use (c_jd28 _ _ _ _ _ _ _ ?kp0 ?kp1 ?kp2 ?kp3 ?kp4) ?k1 ?k2 ?k3 ?k4 ?k5 ?k6 ?k7 ?k8 ?_; (case kp0 => omega); (case kp1 => omega); (case kp2 => omega); (case kp3 => omega); (case kp4 => exact y29 (by assumption) (by assumption)); (case k1 => k_asm); (case k2 => k_asm); (case k3 => k_asm); (case k4 => k_asm); (case k5 => k_asm); (case k6 => first | exact rfl | assumption); (case k7 => ktr_room); (case k8 => ktr_units); intro t9 h9 tk9 F9 N9; (try dsimp only); (try k_fold))))
local macro_rules | `(tactic| walk_at "call ref") => `(tactic| (k_here; k_dflt (refine' use (c_jwday _ _ _ ?kp0) ?k1 ?k2 ?k3 ?k4 ?k5 ?k6 ?k7 ?k8 ?_; (case kp0 => exact jd29 (by assumption) (by assumption) (by assumption) (by assumption) (by assumption) (by assumption)); (case k1 => k_asm); (case k2 => k_asm); (case k3 => k_asm); (case k4 => k_asm); (case k5 => k_asm); (case k6 => first | exact rfl | assumption); (case k7 => ktr_room); (case k8 => ktr_units); intro t9 h9 tk9 F9 N9; (try dsimp only); (try k_fold))))
local macro_rules | `(tactic| walk_at "call ref") => `(tactic| (k_here; k_dflt (refine' use (c_weeks _ _ _ ?kp0) ?k1 ?k2 ?k3 ?k4 ?k5 ?k6 ?k7 ?k8 ?_; (case kp0 => exact y28 (by assumption) (by assumption)); (case k1 => k_asm); (case k2 => k_asm); (case k3 => k_asm); (case k4 => k_asm); (case k5 => k_asm); (case k6 => first | exact rfl | assumption); (case k7 => ktr_room); (case k8 => ktr_units); intro t9 h9 tk9 F9 N9; (try dsimp only); (try k_fold))))
local macro_rules | `(tactic| walk_at "call ref") => `(tactic| (k_here; k_dflt (refine' use (c_within _ _ _ _) ?k1 ?k2 ?k3 ?k4 ?k5 ?k6 ?k7 ?k8 ?_; (case k1 => k_asm); (case k2 => k_asm); (case k3 => k_asm); (case k4 => k_asm); (case k5 => k_asm); (case k6 => first | exact rfl | assumption); (case k7 => ktr_room); (case k8 => ktr_units); intro t9 h9 tk9 F9 N9; (try dsimp only); (try k_fold))))
local macro_rules | `(tactic| walk_at "call ref") => `(tactic| (k_here; k_dflt (refine' use (c_early _ _ _ _ _ _ _ ?kp0 ?kp1 ?kp2 ?kp3 ?kp4) ?k1 ?k2 ?k3 ?k4 ?k5 ?k6 ?k7 ?k8 ?_; (case kp0 => (first | assumption | omega | exact Nat.lt_trans (JD_size (by omega) (by omega) (by omega) (by omega) (by omega)) (by decide))); (case kp1 => (first | assumption | omega | exact Nat.lt_trans (JD_size (by omega) (by omega) (by omega) (by omega) (by omega)) (by decide))); (case kp2 => (first | assumption | omega | exact Nat.lt_trans (JD_size (by omega) (by omega) (by omega) (by omega) (by omega)) (by decide))); (case kp3 => (first | assumption | omega | exact Nat.lt_trans (JD_size (by omega) (by omega) (by omega) (by omega) (by omega)) (by decide))); (case kp4 => (first | assumption | omega | exact Nat.lt_trans (JD_size (by omega) (by omega) (by omega) (by omega) (by omega)) (by decide))); (case k1 => k_asm); (case k2 => k_asm); (case k3 => k_asm); (case k4 => k_asm); (case k5 => k_asm); (case k6 => first | exact rfl | assumption); (case k7 => ktr_room); (case k8 => ktr_units); intro t9 h9 tk9 F9 N9; (try dsimp only); (try k_fold))))
local macro_rules | `(tactic| walk_at "call ref") => `(tactic| (k_here; k_dflt (refine' use (c_late _ _ _ ?kp0) ?k1 ?k2 ?k3 ?k4 ?k5 ?k6 ?k7 ?k8 ?_; (case kp0 => (first | assumption | omega | exact Nat.lt_trans (JD_size (by omega) (by omega) (by omega) (by omega) (by omega)) (by decide))); (case k1 => k_asm); (case k2 => k_asm); (case k3 => k_asm); (case k4 => k_asm); (case k5 => k_asm); (case k6 => first | exact rfl | assumption); (case k7 => ktr_room); (case k8 => ktr_units); intro t9 h9 tk9 F9 N9; (try dsimp only); (try k_fold))))
local macro_rules | `(tactic| walk_at "assign Tuple") => `(tactic| (k_here; (rename IntsAre _ (List.take 3 (List.take 3 _ ++ [0, 0, 0])) => hI9); obtain ⟨a9, b9, c9, t91, t92, t93, e9⟩ := three_of hI9; clear hI9; subst e9; have hw9 := within_bound a9; (try dsimp only)))
local macro_rules | `(tactic| walk_at "binaryOp Mod int int") => `(tactic| (k_here; (first | (with_reducible show wpAny _ _ (binaryOp Operator.Mod (Value.int _ _) (Value.int 12 _)) _ _ _) | (with_reducible show wpAny _ _ (binaryOp Operator.Mod (Value.int _ _) (Value.int 28 _)) _ _ _)); refine' step_mod (by decide) ?_; intro r9 k9 t9 hlo9 hhi9; (try dsimp only)))
local macro_rules | `(tactic| walk_at "CompSrcT") => `(tactic| (k_here; k_dflt (refine' LCt.CompSrcT.range (n := 29) ?k1 ?k2 ?k3 ?k4 ?k5 ?k6 ?k7 ?_; (case k1 => exact rfl); (case k2 => k_asm); (case k3 => k_asm); (case k4 => assumption); (case k5 => exact small_one (by omega) (by omega) (by omega) (by omega)); (case k6 => (rw [rangeSize_nat]; omega)); (case k7 => rw [PySem.sizeLine_eq]; omega); intro g'; (refine' sel_split skipB (fun k' t' I' oI' C' oC' D' m' ys' l' h' tk' E' hlo' hhi' hI' hC' hx' F' N' off' ne' => ?_) (fun k8 t8 vs8 hv8 => ?_) (fun hno8 => ?_)); kcf_last)))
local macro_rules | `(tactic| walk_at "CompSrc") => `(tactic| (k_here; k_dflt ((first | (refine' LCg.CompSrc.range (n := 29) ?k1 ?k2 ?k3 ?k4 ?k5 ?k6 ?k7 ?_; (case k1 => exact rfl); (case k2 => k_asm); (case k3 => k_asm); (case k4 => assumption); (case k6 => decide); (case k5 => decide); (case k7 => exact Nat.le_of_ble_eq_true rfl)) | (refine' LCg.CompSrc.range (n := 7) ?k1 ?k2 ?k3 ?k4 ?k5 ?k6 ?k7 ?_; (case k1 => exact rfl); (case k2 => k_asm); (case k3 => k_asm); (case k4 => assumption); (case k6 => decide); (case k5 => decide); (case k7 => exact Nat.le_of_ble_eq_true rfl)) | (refine' LCg.CompSrc.range (n := 28) ?k1 ?k2 ?k3 ?k4 ?k5 ?k6 ?k7 ?_; (case k1 => exact rfl); (case k2 => k_asm); (case k3 => k_asm); (case k4 => assumption); (case k6 => decide); (case k5 => decide); (case k7 => exact Nat.le_of_ble_eq_true rfl))); intro g'; (refine' map_range _ (fun k' t' I' oI' C' oC' D' m' ys' h' tk' E' hlo' hhi' hC' hx' F' N' off' ne' => ?_) (fun ys8 hys8 => ?_)); kcf_last)))
local macro_rules | `(tactic| walk_at "KCfEl") => `(tactic| (k_here; exact kcf_el (by rfl) rfl rfl))
local macro_rules | `(tactic| walk_at "truthy ref") => `(tactic| (k_here; k_dflt (first
  | (refine' step_truthy ?k1 ?k2 ?k3 ?_; (case k1 => k_asm); (case k2 => k_mem); (case k3 => omega); intro k8)
  | (refine' step_truthy0 ?k1 ?k2 ?_; (case k1 => k_asm); (case k2 => k_mem); intro k8))))
local macro_rules | `(tactic| walk_at "CompEnd") => `(tactic| (k_here; refine' LCg.CompEnd.intro ?k1 ?k2 _ ?k4 ?k3 trivial ?_; (case k1 => k_asm); (case k2 => k_asm); (case k3 => k_asm); (case k4 => first | exact (fun _ h => h) | exact (fun _ h => List.mem_cons_of_mem _ h))))
local macro_rules | `(tactic| walk_at "KCiEl") => `(tactic| (k_here; refine' kci_el (gsel_yes ?k1) rfl rfl; (case k1 => exact skip_yes (by assumption) (by assumption))))
local macro_rules | `(tactic| walk_at "KCiNo") => `(tactic| (k_here; refine' kci_no (gsel_no ?k1) rfl; (case k1 => first | exact skip_no1 (by assumption) | exact skip_no2 (by assumption) | exact skip_no3 (by assumption))))
local macro_rules | `(tactic| walk_at "exec Return some") => `(tactic| (k_here; (with_reducible show wpAny _ _ (exec (Stmt.Return (some (Expr.Constant (Const.bool false) _ _)) _) _) _ _ _); exfalso; first | exact end_again (by assumption) (by assumption) | exact end_counts (by assumption) (by assumption)))
local macro_rules | `(tactic| walk_at "call builtin:sorted") => `(tactic| (k_here; k_dflt (refine' step_sorted ?k1 ?k2 ?k3 ?k4 ?k5 ?_; (case k1 => k_asm); (case k2 => k_asm); (case k3 => k_mem); (case k4 => with_reducible assumption); (case k5 => with_reducible assumption)); intro D9 vs9 c9 h9 F9 N9 l9 hi9; (try k_lt l9); (try k_sweep)))
local macro_rules | `(tactic| walk_at "compareOp Eq ref ref") => `(tactic| (k_here; (rename IntsAre _ W28 => hW9); (with_unfolding_all refine' step_eqlist ?k1 hW9 ?k3 ?k4 ?k5 ?k6 ?_; (case k1 => exact News.isList (by k_asm) (by k_mem)); (case k3 => is_list); (case k4 => l_intsC); (case k5 => units_room); (case k6 => rfl))))
theorem law_holds : PySem.Challenge.rw_ad5012_01.Holds := hd (by
  k_go0
  (all_goals try k_fold)
  k_steps)
end Mine
end
theorem PySem.Challenge.cw_ad5012_01_holds : PySem.Challenge.rw_ad5012_01.Holds := by
  exact Mine.law_holds
