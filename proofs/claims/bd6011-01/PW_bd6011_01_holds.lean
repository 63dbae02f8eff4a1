import PyProof.Rows.All
import Wide.All
import OpenK.AllK
import Wide.FinOn
import PySem.Challenge.RW_bd6011_01
set_option Elab.async false
namespace Mine
/-! 1. Floats that are whole halves: sums, differences and products of them are exact; floor, ceiling and truncation of them and of a rounded quotient. -/
section
open PySem PySem.Float64

theorem vinj {a b : Nat} (h : V a = V b) : a = b := by
  rcases Nat.lt_trichotomy a b with q | q | q
  · have := V_lt q; omega
  · exact q
  · have := V_lt q; omega

theorem dist_zero {a b : Nat} : dist a b = 0 ↔ a = b := by unfold dist; omega

/-- n * 2^k is one of the format's magnitudes -/
theorem rep {n k : Nat} (hn : n ≤ 2 ^ 53) (h1 : 53 ≤ k) (h2 : k ≤ 1500) : ∃ t, t < infMag ∧ V t = n * 2 ^ k := by
  by_cases h0 : n = 0
  · exact ⟨0, by decide, by rw [V_zero, h0]; simp⟩
  · by_cases h3 : n = 2 ^ 53
    · refine ⟨k * 2 ^ 52 + 2 ^ 53, ?_, ?_⟩
      · have : infMag = 2047 * 2 ^ 52 := rfl
        omega
      · rw [V_at (Nat.le_refl _) (.inl (by omega)), h3]
    · have hl : n.log2 ≤ 52 := by
        have := (Nat.log2_lt h0).mpr (show n < 2 ^ 53 by omega)
        omega
      have hlo : 2 ^ n.log2 ≤ n := Nat.log2_self_le h0
      have hhi : n < 2 ^ (n.log2 + 1) := Nat.lt_log2_self
      generalize n.log2 = l at *
      have e1 : 2 ^ l * 2 ^ (52 - l) = 2 ^ 52 := by rw [← Nat.pow_add]; congr 1; omega
      have e2 : 2 ^ (l + 1) * 2 ^ (52 - l) = 2 ^ 53 := by rw [← Nat.pow_add]; congr 1; omega
      have e3 : 2 ^ k = 2 ^ (52 - l) * 2 ^ (k - (52 - l)) := by rw [← Nat.pow_add]; congr 1; omega
      have q1 : 2 ^ 52 ≤ n * 2 ^ (52 - l) := by rw [← e1]; exact Nat.mul_le_mul_right _ hlo
      have q2 : n * 2 ^ (52 - l) ≤ 2 ^ 53 := by rw [← e2]; exact Nat.mul_le_mul_right _ (Nat.le_of_lt hhi)
      refine ⟨(k - (52 - l)) * 2 ^ 52 + n * 2 ^ (52 - l), ?_, ?_⟩
      · have : infMag = 2047 * 2 ^ 52 := rfl
        omega
      · rw [V_at q2 (.inl q1), e3, Nat.mul_assoc]

theorem right_exact {r : UInt64} {neg : Bool} {W D t' : Nat} (R : Right r neg W D) (hD : 0 < D) (ht : t' < infMag) (hV : D * V t' = W) : r = pack neg t' := by
  obtain ⟨t, rfl, hle, hiff, hmin⟩ := R
  have hlt : t < infMag := by
    refine Nat.lt_of_le_of_ne hle fun e => ?_
    have h1 := hiff.mp e
    have h2 : V t' ≤ V (infMag - 1) := V_mono (by omega)
    have h3 : V (infMag - 1) = (2 ^ 53 - 1) * 2 ^ 2045 := by
      have e : infMag - 1 = 2045 * 2 ^ 52 + (2 ^ 53 - 1) := by decide +kernel
      rw [e]; exact V_at (k := 2045) (q := 2 ^ 53 - 1) (by omega) (.inl (by omega))
    rw [h3] at h2
    have h4 : D * V t' ≤ D * ((2 ^ 53 - 1) * 2 ^ 2045) := Nat.mul_le_mul_left D h2
    rw [hV] at h4
    have h5 : D * ((2 ^ 54 - 1) * 2 ^ 2045) ≤ 2 * (D * ((2 ^ 53 - 1) * 2 ^ 2045)) := Nat.le_trans h1 (Nat.mul_le_mul_left 2 h4)
    have h6 : 2 * (D * ((2 ^ 53 - 1) * 2 ^ 2045)) = D * (2 * ((2 ^ 53 - 1) * 2 ^ 2045)) := Nat.mul_left_comm _ _ _
    rw [h6] at h5
    have h7 := Nat.le_of_mul_le_mul_left h5 hD
    exact absurd h7 (by decide +kernel)
  have h := (hmin hlt t').1
  rw [hV] at h
  have h0 : dist W W = 0 := dist_zero.mpr rfl
  rw [h0] at h
  have h1 := dist_zero.mp (Nat.le_zero.mp h)
  have h2 : V t = V t' := Nat.eq_of_mul_eq_mul_left hD (by omega)
  rw [vinj h2]

/-- the float of n halves -/
def hf (n : Int) : UInt64 := ofFrac (decide (n < 0)) n.natAbs 2

theorem hf_pack {n : Int} (h : n.natAbs ≤ 2 ^ 53) : ∃ t, t < infMag ∧ V t = n.natAbs * 2 ^ 1073 ∧ hf n = pack (decide (n < 0)) t := by
  obtain ⟨t, ht, hV⟩ := rep (n := n.natAbs) (k := 1073) h (by decide) (by decide)
  refine ⟨t, ht, hV, ?_⟩
  have R : Right (hf n) (decide (n < 0)) (n.natAbs * 2 ^ 1073) 1 := ofFrac_right (by decide) (by rw [Nat.mul_one, Nat.mul_assoc, ← Nat.pow_succ]) (by decide)
  exact right_exact R (by decide) ht (by rw [Nat.one_mul, hV])

theorem hf_decode {n : Int} (h : n.natAbs ≤ 2 ^ 53) : ∃ m e, decode (hf n) = .fin (decide (n < 0)) m e ∧ m * 2 ^ (e + 1074).toNat = n.natAbs * 2 ^ 1073 := by
  obtain ⟨t, ht, hV, e⟩ := hf_pack h
  obtain ⟨m, x, hd, hm⟩ := decode_pack (decide (n < 0)) ht
  exact ⟨m, x, by rw [e]; exact hd, by rw [hm, hV]⟩

theorem sgn_abs (n : Int) (k : Nat) : sgn (decide (n < 0)) (n.natAbs * k) = n * (k : Int) := by
  rw [sgn_mul]
  congr 1
  unfold sgn
  split
  · rename_i h; have := of_decide_eq_true h; omega
  · rename_i h; have : ¬ n < 0 := by simpa using h
    omega

theorem hf_val {n : Int} (h : n.natAbs ≤ 2 ^ 53) : val (hf n) = n * ((2 ^ 1073 : Nat) : Int) := by
  obtain ⟨m, e, hd, hm⟩ := hf_decode h
  rw [val_eq hd, hm, sgn_abs]

theorem of_pack {r : UInt64} {n : Int} (h : n.natAbs ≤ 2 ^ 53) {D W : Nat} (hD : 0 < D) (R : Right r (decide (n < 0)) W D) (hW : W = D * (n.natAbs * 2 ^ 1073)) : r = hf n := by
  obtain ⟨t, ht, hV, e⟩ := hf_pack h
  rw [e]
  exact right_exact R hD ht (by rw [hV, hW])

theorem hf_zero : hf 0 = zero false := by decide +kernel

theorem P_pos : (0 : Int) < ((2 ^ 1073 : Nat) : Int) := Int.ofNat_lt.mpr (Nat.two_pow_pos _)

theorem sign_mul {c K : Int} (hK : 0 < K) : decide (c * K < 0) = decide (c < 0) := by
  apply decide_eq_decide.mpr
  constructor
  · intro h
    by_cases q : c < 0
    · exact q
    · have := Int.mul_nonneg (show 0 ≤ c by omega) (Int.le_of_lt hK)
      omega
  · intro h
    exact Int.mul_neg_of_neg_of_pos h hK

theorem add_hf {a b : Int} (ha : a.natAbs ≤ 2 ^ 53) (hb : b.natAbs ≤ 2 ^ 53) (hc : (a + b).natAbs ≤ 2 ^ 53) : Float64.add (hf a) (hf b) = hf (a + b) := by
  obtain ⟨m, e, hd, hm⟩ := hf_decode ha
  obtain ⟨k, f, hd', hm'⟩ := hf_decode hb
  have h := add_right hd hd'
  rw [hf_val ha, hf_val hb, ← Int.add_mul] at h
  by_cases h0 : a + b = 0
  · rw [h.1 (by rw [h0, Int.zero_mul]), h0, hf_zero]
    congr 1
    have : ¬ (a < 0 ∧ b < 0) := by omega
    simpa using this
  · have R := h.2 (fun q => by
      rcases Int.mul_eq_zero.mp q with q | q
      · exact h0 q
      · have := P_pos; omega)
    rw [sign_mul P_pos, Int.natAbs_mul, Int.natAbs_natCast] at R
    exact of_pack hc (by decide) R (by rw [Nat.one_mul])

theorem sub_hf {a b : Int} (ha : a.natAbs ≤ 2 ^ 53) (hb : b.natAbs ≤ 2 ^ 53) (hc : (a - b).natAbs ≤ 2 ^ 53) : Float64.sub (hf a) (hf b) = hf (a - b) := by
  obtain ⟨m, e, hd, hm⟩ := hf_decode ha
  obtain ⟨k, f, hd', hm'⟩ := hf_decode hb
  have h := sub_right hd hd'
  rw [hf_val ha, hf_val hb, ← Int.sub_mul] at h
  by_cases h0 : a - b = 0
  · rw [h.1 (by rw [h0, Int.zero_mul]), h0, hf_zero]
    congr 1
    have : a = b := by omega
    subst this
    simp
  · have R := h.2 (fun q => by
      rcases Int.mul_eq_zero.mp q with q | q
      · exact h0 q
      · have := P_pos; omega)
    rw [sign_mul P_pos, Int.natAbs_mul, Int.natAbs_natCast] at R
    exact of_pack hc (by decide) R (by rw [Nat.one_mul])

theorem mul_hf {a b c : Int} (ha : a.natAbs ≤ 2 ^ 53) (hb : b.natAbs ≤ 2 ^ 53) (hc : c.natAbs ≤ 2 ^ 53) (hp : 0 < a ∨ 0 < b) (he : a * b = 2 * c) : Float64.mul (hf a) (hf b) = hf c := by
  obtain ⟨m, e, hd, hm⟩ := hf_decode ha
  obtain ⟨k, f, hd', hm'⟩ := hf_decode hb
  have R := mul_right hd hd'
  rw [hf_val ha, hf_val hb, Int.natAbs_mul, Int.natAbs_mul, Int.natAbs_natCast] at R
  have hs : (decide (a < 0) != decide (b < 0)) = decide (c < 0) := by
    rcases hp with hp | hp
    · have h1 : decide (a < 0) = false := by simp; omega
      rw [h1]
      have : decide (b < 0) = decide (c < 0) := by
        apply decide_eq_decide.mpr
        constructor
        · intro q; have := Int.mul_neg_of_pos_of_neg hp q; omega
        · intro q
          by_cases q2 : b < 0
          · exact q2
          · have := Int.mul_nonneg (Int.le_of_lt hp) (show 0 ≤ b by omega); omega
      rw [this]; simp
    · have h1 : decide (b < 0) = false := by simp; omega
      rw [h1]
      have : decide (a < 0) = decide (c < 0) := by
        apply decide_eq_decide.mpr
        constructor
        · intro q; have := Int.mul_neg_of_neg_of_pos q hp; omega
        · intro q
          by_cases q2 : a < 0
          · exact q2
          · have := Int.mul_nonneg (show 0 ≤ a by omega) (Int.le_of_lt hp); omega
      rw [this]; simp
  rw [hs] at R
  refine of_pack hc (Nat.two_pow_pos _) R ?_
  have h2 : a.natAbs * b.natAbs = 2 * c.natAbs := by rw [← Int.natAbs_mul, he, Int.natAbs_mul]; rfl
  have h3 : (2 : Nat) ^ 1074 = 2 * 2 ^ 1073 := by rw [Nat.pow_succ]; omega
  rw [h3]
  generalize (2 : Nat) ^ 1073 = P
  calc a.natAbs * P * (b.natAbs * P) = a.natAbs * b.natAbs * (P * P) := by ac_rfl
    _ = 2 * c.natAbs * (P * P) := by rw [h2]
    _ = 2 * P * (c.natAbs * P) := by ac_rfl

theorem ofInt_hf {n : Int} (h : (2 * n).natAbs ≤ 2 ^ 53) : Float64.ofInt n = hf (2 * n) := by
  have R := ofInt_right n
  have hs : decide (n < 0) = decide (2 * n < 0) := by apply decide_eq_decide.mpr; omega
  rw [hs] at R
  refine of_pack h (by decide) R ?_
  have h3 : (2 : Nat) ^ 1074 = 2 * 2 ^ 1073 := by rw [Nat.pow_succ]; omega
  rw [h3, Int.natAbs_mul]
  generalize (2 : Nat) ^ 1073 = P
  show n.natAbs * (2 * P) = 1 * (2 * n.natAbs * P)
  rw [Nat.one_mul]; ac_rfl

theorem finite_hf {n : Int} (h : n.natAbs ≤ 2 ^ 53) : isFinite (hf n) = true := by
  obtain ⟨m, e, hd, hm⟩ := hf_decode h
  unfold isFinite; rw [hd]

theorem hf_nonzero {n : Int} (h : n.natAbs ≤ 2 ^ 53) (h0 : n ≠ 0) : ¬ isZero (hf n) = true := by
  obtain ⟨m, e, hd, hm⟩ := hf_decode h
  unfold isZero; rw [hd]
  cases m with
  | zero =>
    rw [Nat.zero_mul] at hm
    have := Nat.two_pow_pos 1073
    rcases Nat.mul_eq_zero.mp hm.symm with q | q <;> omega
  | succ m => simp

/-- floor and ceil of any finite float, by its value -/
theorem floor_val {s : Bool} {m : Nat} {e : Int} {x : UInt64} (hd : decode x = .fin s m e) : floorOf s m e = val x / (2 : Int) ^ 1074 := by
  have he := decode_ge hd
  rw [val_eq hd, sgn_mul]
  have hpow : ∀ n : Nat, ((2 ^ n : Nat) : Int) = (2 : Int) ^ n := fun n => by simp
  rw [hpow]
  unfold floorOf
  split
  · rename_i h
    have e1 : (e + 1074).toNat = e.toNat + 1074 := by omega
    rw [e1, Int.pow_add, ← Int.mul_assoc]
    rw [Int.mul_ediv_cancel]
    exact Int.ne_of_gt (Int.pow_pos (by decide))
  · rename_i h
    have e1 : 1074 = (-e).toNat + (e + 1074).toNat := by omega
    have e2 : (2 : Int) ^ 1074 = (2 : Int) ^ (-e).toNat * (2 : Int) ^ (e + 1074).toNat := by rw [← Int.pow_add, ← e1]
    rw [e2, Int.mul_ediv_mul_of_pos_left]
    · rw [Int.fdiv_eq_ediv_of_nonneg]
      exact Int.le_of_lt (Int.pow_pos (by decide))
    · exact Int.pow_pos (by decide)

theorem ceil_val {s : Bool} {m : Nat} {e : Int} {x : UInt64} (hd : decode x = .fin s m e) : ceilOf s m e = -((-val x) / (2 : Int) ^ 1074) := by
  unfold ceilOf
  have h2 := neg_decode hd
  rw [floor_val h2, neg_val hd]

theorem half_ediv (n : Int) : n * ((2 ^ 1073 : Nat) : Int) / (2 : Int) ^ 1074 = n / 2 := by
  have hpow : ∀ n : Nat, ((2 ^ n : Nat) : Int) = (2 : Int) ^ n := fun n => by simp
  have h : (2 : Int) ^ 1074 = 2 * ((2 ^ 1073 : Nat) : Int) := by rw [hpow, Int.mul_comm, ← Int.pow_succ]
  rw [h, Int.mul_ediv_mul_of_pos_left _ _ P_pos]

theorem floor_hf {n : Int} (h : n.natAbs ≤ 2 ^ 53) : Flt.toInt floorOf (hf n) = n / 2 := by
  obtain ⟨m, e, hd, hm⟩ := hf_decode h
  rw [Flt.toInt_fin hd, floor_val hd, hf_val h, half_ediv]

theorem ceil_hf {n : Int} (h : n.natAbs ≤ 2 ^ 53) : Flt.toInt ceilOf (hf n) = -((-n) / 2) := by
  obtain ⟨m, e, hd, hm⟩ := hf_decode h
  rw [Flt.toInt_fin hd, ceil_val hd, hf_val h, ← Int.neg_mul, half_ediv]

theorem trunc_hf {k : Int} (h : (2 * k).natAbs ≤ 2 ^ 53) : Flt.toInt truncOf (hf (2 * k)) = k := by
  obtain ⟨m, e, hd, hm⟩ := hf_decode h
  rw [Flt.toInt_fin hd]
  unfold truncOf
  split
  · rw [ceil_val hd, hf_val h, ← Int.neg_mul, half_ediv]; omega
  · rw [floor_val hd, hf_val h, half_ediv]; omega

/-- x is a float whose floor and ceiling are the quotient's -/
structure FQ (x : UInt64) (a b : Int) : Prop where
  fin : isFinite x = true
  floor : Flt.toInt floorOf x = a / b
  ceil : Flt.toInt ceilOf x = -((-a) / b)

theorem exists_pow {b : Nat} (hb : 0 < b) : ∃ s, b ≤ 2 ^ s ∧ 2 ^ s ≤ 2 * b := by
  refine ⟨b.log2 + 1, Nat.le_of_lt Nat.lt_log2_self, ?_⟩
  have := Nat.log2_self_le (show b ≠ 0 by omega)
  rw [Nat.pow_succ]; omega

/-- the rounded quotient's magnitude stands between the same whole numbers -/
theorem quot_between {r : UInt64} {neg : Bool} {W D n b c : Nat} (R : Right r neg W D) (hD : 0 < D) (hb : 0 < b) (hc : 0 < c) (hW : W = n * c) (hE : D * 2 ^ 1074 = b * c) (hn : n + b ≤ 2 ^ 50) :
    ∃ t, t < infMag ∧ r = pack neg t ∧ n / b * 2 ^ 1074 ≤ V t ∧ V t < (n / b + 1) * 2 ^ 1074 ∧ (n % b = 0 → V t = n / b * 2 ^ 1074) ∧ (n % b ≠ 0 → n / b * 2 ^ 1074 < V t) := by
  obtain ⟨s, hs1, hs2⟩ := exists_pow hb
  have hdm := Nat.div_add_mod n b
  have hmod := Nat.mod_lt n hb
  have hs50 : s ≤ 51 := by
    rcases Nat.lt_or_ge 51 s with q | q
    · have h1 : 2 ^ 52 ≤ 2 ^ s := Nat.pow_le_pow_right (by decide) q
      omega
    · exact q
  generalize hk : n / b = k at *
  generalize hr : n % b = m at *
  have hP : (2 : Nat) ^ 1074 = 2 ^ s * 2 ^ (1074 - s) := by
    have e : s + (1074 - s) = 1074 := by omega
    rw [← Nat.pow_add, e]
  have hPs := Nat.two_pow_pos s
  have hPj := Nat.two_pow_pos (1074 - s)
  have hkb : b * k ≤ n := by omega
  have hks : k * 2 ^ s ≤ 2 * n := by
    calc k * 2 ^ s ≤ k * (2 * b) := Nat.mul_le_mul_left k hs2
      _ = 2 * (b * k) := by ac_rfl
      _ ≤ 2 * n := Nat.mul_le_mul_left 2 hkb
  have hk1s : (k + 1) * 2 ^ s ≤ 2 * n + 2 * b := by rw [Nat.add_mul, Nat.one_mul]; omega
  obtain ⟨t1, ht1, hV1⟩ := rep (n := k * 2 ^ s) (k := 1074 - s) (by omega) (by omega) (by omega)
  obtain ⟨t2, ht2, hV2⟩ := rep (n := (k + 1) * 2 ^ s - 1) (k := 1074 - s) (by omega) (by omega) (by omega)
  obtain ⟨t3, ht3, hV3⟩ := rep (n := k * 2 ^ s + 1) (k := 1074 - s) (by omega) (by omega) (by omega)
  obtain ⟨t, rfl, hle, hiff, hmin⟩ := R
  have hfin : t < infMag := by
    refine Nat.lt_of_le_of_ne hle fun e => ?_
    have h1 := hiff.mp e
    have h8 : W ≤ D * 2 ^ 1074 * 2 ^ 50 := by
      rw [hW, hE]
      calc n * c ≤ 2 ^ 50 * c := Nat.mul_le_mul_right c (by omega)
        _ ≤ b * (2 ^ 50 * c) := Nat.le_mul_of_pos_left _ hb
        _ = b * c * 2 ^ 50 := by ac_rfl
    have h2 : D * ((2 ^ 54 - 1) * 2 ^ 2045) ≤ D * (2 * (2 ^ 1074 * 2 ^ 50)) := by
      calc D * ((2 ^ 54 - 1) * 2 ^ 2045) ≤ 2 * W := h1
        _ ≤ 2 * (D * 2 ^ 1074 * 2 ^ 50) := Nat.mul_le_mul_left 2 h8
        _ = D * (2 * (2 ^ 1074 * 2 ^ 50)) := by rw [Nat.mul_assoc D, Nat.mul_left_comm]
    exact absurd (Nat.le_of_mul_le_mul_left h2 hD) (by decide +kernel)
  have hm := fun t' => (hmin hfin t').1
  clear hmin hiff
  -- the three neighbours, on the scale of W
  have e1 : D * V t1 = b * k * c := by
    rw [hV1, Nat.mul_assoc, ← hP, Nat.mul_left_comm, hE]; ac_rfl
  have e2 : D * V t2 + D * 2 ^ (1074 - s) = b * k * c + b * c := by
    rw [hV2, ← Nat.mul_add, Nat.sub_mul, Nat.one_mul]
    have q : 2 ^ (1074 - s) ≤ (k + 1) * 2 ^ s * 2 ^ (1074 - s) := Nat.le_mul_of_pos_left _ (Nat.mul_pos (by omega) hPs)
    rw [Nat.sub_add_cancel q, Nat.mul_assoc, ← hP, Nat.mul_left_comm, hE, Nat.add_mul, Nat.one_mul]; ac_rfl
  have e3 : D * V t3 = b * k * c + D * 2 ^ (1074 - s) := by
    rw [hV3, Nat.add_mul, Nat.one_mul, Nat.mul_add, Nat.mul_assoc, ← hP, Nat.mul_left_comm, hE]; ac_rfl
  have hstep : D * 2 ^ (1074 - s) ≤ c := by
    have h1 : b * (D * 2 ^ (1074 - s)) ≤ b * c := by
      rw [← hE, hP]
      calc b * (D * 2 ^ (1074 - s)) ≤ 2 ^ s * (D * 2 ^ (1074 - s)) := Nat.mul_le_mul_right _ hs1
        _ = D * (2 ^ s * 2 ^ (1074 - s)) := by ac_rfl
    exact Nat.le_of_mul_le_mul_left h1 hb
  have hWk : W = b * k * c + m * c := by rw [hW, ← hdm, Nat.add_mul]
  have hlow : V t1 ≤ V t := by
    rcases Nat.lt_or_ge (V t) (V t1) with q | q
    · exfalso
      have h1 : D * V t < D * V t1 := Nat.mul_lt_mul_of_pos_left q hD
      have h2 := hm t1
      unfold dist at h2
      have h3 : D * V t1 ≤ W := by rw [e1, hWk]; omega
      omega
    · exact q
  have hmc : m * c + c ≤ b * c := by rw [← Nat.succ_mul]; exact Nat.mul_le_mul_right c hmod
  have hup : V t ≤ V t2 := by
    rcases Nat.lt_or_ge (V t2) (V t) with q | q
    · exfalso
      have h1 : D * V t2 < D * V t := Nat.mul_lt_mul_of_pos_left q hD
      have h2 := hm t2
      unfold dist at h2
      have h3 : W ≤ D * V t2 := by omega
      omega
    · exact q
  have hb1 : V t1 = k * 2 ^ 1074 := by rw [hV1, Nat.mul_assoc, ← hP]
  have hb2 : V t2 < (k + 1) * 2 ^ 1074 := by
    rw [hV2, hP, ← Nat.mul_assoc]
    exact Nat.mul_lt_mul_of_pos_right (Nat.sub_lt (Nat.mul_pos (by omega) hPs) (by decide)) hPj
  refine ⟨t, hfin, rfl, hb1 ▸ hlow, Nat.lt_of_le_of_lt hup hb2, fun h0 => ?_, fun h0 => ?_⟩
  · rw [← hb1]
    have h2 := hm t1
    have h3 : D * V t1 = W := by rw [e1, hWk, h0]; omega
    rw [h3, dist_zero.mpr rfl] at h2
    have h4 := dist_zero.mp (Nat.le_zero.mp h2)
    exact Nat.eq_of_mul_eq_mul_left hD (by omega)
  · have hc1 : c ≤ m * c := Nat.le_mul_of_pos_left _ (by omega)
    have h3 : V t3 ≤ V t := by
      rcases Nat.lt_or_ge (V t) (V t3) with q | q
      · exfalso
        have h1 : D * V t < D * V t3 := Nat.mul_lt_mul_of_pos_left q hD
        have h2 := hm t3
        unfold dist at h2
        omega
      · exact q
    have h4 : V t1 < V t3 := by
      rw [hV1, hV3]
      exact Nat.mul_lt_mul_of_pos_right (Nat.lt_succ_self _) hPj
    omega

theorem fq_of {x : UInt64} {t : Nat} {a b : Int} (hb : 0 < b) (ht : t < infMag) (hx : x = pack (decide (a < 0)) t) (h1 : a.natAbs / b.natAbs * 2 ^ 1074 ≤ V t) (h2 : V t < (a.natAbs / b.natAbs + 1) * 2 ^ 1074)
    (h3 : a.natAbs % b.natAbs = 0 → V t = a.natAbs / b.natAbs * 2 ^ 1074) (h4 : a.natAbs % b.natAbs ≠ 0 → a.natAbs / b.natAbs * 2 ^ 1074 < V t) : FQ x a b := by
  obtain ⟨m, e, hd, hm⟩ := decode_pack (decide (a < 0)) ht
  rw [← hx] at hd
  have hv : val x = sgn (decide (a < 0)) (V t) := by rw [val_eq hd, hm]
  obtain ⟨n, rfl⟩ := Int.eq_ofNat_of_zero_le (Int.le_of_lt hb)
  have hn : 0 < n := by omega
  have hP : (0 : Int) < (2 : Int) ^ 1074 := Int.pow_pos (by decide)
  have hpow : ((2 ^ 1074 : Nat) : Int) = (2 : Int) ^ 1074 := (fun n : Nat => show ((2 ^ n : Nat) : Int) = (2 : Int) ^ n by simp) 1074
  rw [Int.natAbs_natCast] at *
  have hfl : ∀ {k : Nat}, k * 2 ^ 1074 ≤ V t → V t < (k + 1) * 2 ^ 1074 → ((V t : Nat) : Int) / (2 : Int) ^ 1074 = (k : Int) := by
    intro k q1 q2
    rw [← hpow, ← Int.natCast_ediv]
    congr 1
    exact Nat.div_eq_of_lt_le q1 q2
  have hcl0 : ∀ {k : Nat}, V t = k * 2 ^ 1074 → (-((V t : Nat) : Int)) / (2 : Int) ^ 1074 = -(k : Int) := by
    intro k q
    rw [q, Int.natCast_mul, hpow, ← Int.neg_mul, Int.mul_ediv_cancel _ (Int.ne_of_gt hP)]
  have hcl1 : ∀ {k : Nat}, k * 2 ^ 1074 < V t → V t < (k + 1) * 2 ^ 1074 → (-((V t : Nat) : Int)) / (2 : Int) ^ 1074 = -(k : Int) - 1 := by
    intro k q1 q2
    have p1 : (k : Int) * (2 : Int) ^ 1074 < ((V t : Nat) : Int) := by rw [← hpow, ← Int.natCast_mul]; exact Int.ofNat_lt.mpr q1
    have p2 : ((V t : Nat) : Int) < ((k : Int) + 1) * (2 : Int) ^ 1074 := by
      have := Int.ofNat_lt.mpr q2
      rw [Int.natCast_mul, hpow] at this
      exact this
    generalize (2 : Int) ^ 1074 = P at *
    rw [Int.add_mul, Int.one_mul] at p2
    refine Int.le_antisymm ?_ ?_
    · have : (-((V t : Nat) : Int)) / P < -(k : Int) := by
        refine Int.ediv_lt_of_lt_mul hP ?_
        rw [Int.neg_mul]; omega
      omega
    · refine Int.le_ediv_of_mul_le hP ?_
      rw [Int.sub_mul, Int.neg_mul, Int.one_mul]; omega
  have hfin : isFinite x = true := by unfold isFinite; rw [hd]
  rcases Int.lt_or_le a 0 with ha | ha
  · have hs : decide (a < 0) = true := by simpa using ha
    have hv' : val x = -((V t : Nat) : Int) := by rw [hv, hs]; rfl
    have haa : a = -(a.natAbs : Int) := by omega
    have hceil : Flt.toInt ceilOf x = -((-a) / (n : Int)) := by
      have e : -a = (a.natAbs : Int) := by omega
      rw [Flt.toInt_fin hd, ceil_val hd, hv', Int.neg_neg, hfl h1 h2, e, Int.natCast_ediv]
    refine ⟨hfin, ?_, hceil⟩
    rw [Flt.toInt_fin hd, floor_val hd, hv']
    have hdm := Nat.div_add_mod a.natAbs n
    have hml := Nat.mod_lt a.natAbs hn
    by_cases h0 : a.natAbs % n = 0
    · rw [hcl0 (h3 h0)]
      rw [h0] at hdm
      generalize a.natAbs / n = k at *
      have : a = (-(k : Int)) * (n : Int) := by
        rw [haa, ← hdm]; simp [Int.mul_comm, Int.mul_neg]
      rw [this, Int.mul_ediv_cancel _ (by omega)]
    · rw [hcl1 (h4 h0) h2]
      generalize a.natAbs / n = k at *
      have p : (a.natAbs : Int) = (n : Int) * (k : Int) + ((a.natAbs % n : Nat) : Int) := by rw [← Int.natCast_mul, ← Int.natCast_add, hdm]
      generalize a.natAbs % n = r at *
      symm
      refine Int.le_antisymm ?_ ?_
      · have : a / (n : Int) < -(k : Int) := by
          refine Int.ediv_lt_of_lt_mul hb ?_
          rw [Int.neg_mul, Int.mul_comm]; omega
        omega
      · refine Int.le_ediv_of_mul_le hb ?_
        rw [Int.sub_mul, Int.neg_mul, Int.one_mul, Int.mul_comm]; omega
  · have hs : decide (a < 0) = false := by simp; omega
    have hv' : val x = ((V t : Nat) : Int) := by rw [hv, hs]; rfl
    have haa : a = (a.natAbs : Int) := by omega
    refine ⟨hfin, ?_, ?_⟩
    · rw [Flt.toInt_fin hd, floor_val hd, hv', hfl h1 h2, Int.natCast_ediv, ← haa]
    · rw [Flt.toInt_fin hd, ceil_val hd, hv']
      congr 1
      have hdm := Nat.div_add_mod a.natAbs n
      have hml := Nat.mod_lt a.natAbs hn
      by_cases h0 : a.natAbs % n = 0
      · rw [hcl0 (h3 h0)]
        rw [h0] at hdm
        generalize a.natAbs / n = k at *
        have : -a = (-(k : Int)) * (n : Int) := by
          rw [haa, ← hdm]; simp [Int.mul_comm, Int.mul_neg]
        rw [this, Int.mul_ediv_cancel _ (by omega)]
      · rw [hcl1 (h4 h0) h2]
        generalize a.natAbs / n = k at *
        have p : (a.natAbs : Int) = (n : Int) * (k : Int) + ((a.natAbs % n : Nat) : Int) := by rw [← Int.natCast_mul, ← Int.natCast_add, hdm]
        generalize a.natAbs % n = r at *
        symm
        refine Int.le_antisymm ?_ ?_
        · have : -a / (n : Int) < -(k : Int) := by
            refine Int.ediv_lt_of_lt_mul hb ?_
            rw [Int.neg_mul, Int.mul_comm]; omega
          omega
        · refine Int.le_ediv_of_mul_le hb ?_
          rw [Int.sub_mul, Int.neg_mul, Int.one_mul, Int.mul_comm]; omega

theorem fq_div {a b : Int} (hb : 0 < b) (h : a.natAbs + b.natAbs ≤ 2 ^ 50) : FQ (Float64.div (hf a) (hf b)) a b := by
  obtain ⟨m, e, hd, hm⟩ := hf_decode (show a.natAbs ≤ 2 ^ 53 by omega)
  obtain ⟨k, f, hd', hm'⟩ := hf_decode (show b.natAbs ≤ 2 ^ 53 by omega)
  have hk : k ≠ 0 := by
    intro q
    rw [q, Nat.zero_mul] at hm'
    have := Nat.two_pow_pos 1073
    rcases Nat.mul_eq_zero.mp hm'.symm with q | q <;> omega
  have R := div_right hd hd' hk
  rw [hf_val (by omega), hf_val (by omega), Int.natAbs_mul, Int.natAbs_mul, Int.natAbs_natCast] at R
  have hs : (decide (a < 0) != decide (b < 0)) = decide (a < 0) := by
    have : decide (b < 0) = false := by simp; omega
    rw [this]; simp
  rw [hs] at R
  obtain ⟨t, ht, hr, h1, h2, h3, h4⟩ := quot_between (n := a.natAbs) (b := b.natAbs) (c := 2 ^ 1073 * 2 ^ 1074) R (Nat.mul_pos (by omega) (Nat.two_pow_pos _)) (by omega) (Nat.mul_pos (Nat.two_pow_pos _) (Nat.two_pow_pos _)) (Nat.mul_assoc _ _ _) (Nat.mul_assoc _ _ _) h
  exact fq_of hb ht hr h1 h2 h3 h4

theorem fq_frac {a b : Int} (hb : 0 < b) (h : a.natAbs + b.natAbs ≤ 2 ^ 50) : FQ (ofFrac (decide (a < 0) != decide (b < 0)) a.natAbs b.natAbs) a b := by
  have hs : (decide (a < 0) != decide (b < 0)) = decide (a < 0) := by
    have : decide (b < 0) = false := by simp; omega
    rw [this]; simp
  rw [hs]
  have R : Right (ofFrac (decide (a < 0)) a.natAbs b.natAbs) (decide (a < 0)) (a.natAbs * 2 ^ 1074) b.natAbs := ofFrac_right (by omega) rfl (by omega)
  obtain ⟨t, ht, hr, h1, h2, h3, h4⟩ := quot_between (n := a.natAbs) (b := b.natAbs) (c := 2 ^ 1074) R (by omega) (by omega) (Nat.two_pow_pos _) rfl rfl h
  exact fq_of hb ht hr h1 h2 h3 h4

theorem cmpInt_hf {a b : Int} (ha : a.natAbs ≤ 2 ^ 53) : Float64.cmpInt (hf a) b = some (compare a (2 * b)) := by
  obtain ⟨m, e, hd, hm⟩ := hf_decode ha
  rw [cmpInt_right hd, hf_val ha]
  have hpow : ((2 ^ 1073 : Nat) : Int) = (2 : Int) ^ 1073 := (fun n : Nat => show ((2 ^ n : Nat) : Int) = (2 : Int) ^ n by simp) 1073
  have e : b * (2 : Int) ^ 1074 = 2 * b * (2 : Int) ^ 1073 := by
    rw [Int.pow_succ]
    generalize (2 : Int) ^ 1073 = P
    rw [Int.mul_comm P 2, ← Int.mul_assoc, Int.mul_comm b 2]
  have hP : (0 : Int) < (2 : Int) ^ 1073 := Int.pow_pos (by decide)
  rw [hpow, e]
  generalize (2 : Int) ^ 1073 = P at *
  congr 1
  rcases Int.lt_trichotomy a (2 * b) with h | h | h
  · rw [Int.compare_eq_lt.mpr h, Int.compare_eq_lt.mpr (Int.mul_lt_mul_of_pos_right h hP)]
  · rw [h]; simp
  · rw [Int.compare_eq_gt.mpr h, Int.compare_eq_gt.mpr (Int.mul_lt_mul_of_pos_right h hP)]

theorem cmp_hf {a : Int} (ha : a.natAbs ≤ 2 ^ 53) : Float64.cmp (hf a) (hf a) = some .eq := by
  obtain ⟨m, e, hd, hm⟩ := hf_decode ha
  rw [cmp_right hd hd]; simp

end
open PySem PySem.W PySem.Calls PyProof.Rows
/-! 2. The head: what the run of the top leaves, once. -/
set_option maxRecDepth 100000 in
set_option maxHeartbeats 8000000 in
open_top hd for PySem.Challenge.rw_bd6011_01
/-! 3. The steps over such floats, for the walk. -/

theorem lit_isl : (4701119295650791424 : UInt64) = hf 3896879 := by decide +kernel
theorem lit_gre : (4700144277945057280 : UInt64) = hf 3442851 := by decide +kernel
theorem lit_295 : (4628996729495093248 : UInt64) = hf 59 := by decide +kernel
theorem lit_05 : (4602678819172646912 : UInt64) = hf 1 := by decide +kernel

theorem over_small {n : Int} (h : n.natAbs ≤ 2 ^ 53) : ¬ Flt.Over n := by
  intro q
  exact absurd (Nat.le_trans q h) (by decide +kernel)
theorem fits_small {n : Int} (h : n.natAbs ≤ 2 ^ 53) : n.natAbs < 2 ^ 1023 :=
  Nat.lt_of_le_of_lt h (by decide +kernel)

section
variable {prog : Program} {w : World} {A : Around} {E : Value → Shared → Prop} {s : Shared} {x y : UInt64} {a b n k : Int} {t u : Tok} {Q : Value → Shared → Prop}

theorem w_add_ff (hx : x = hf a) (hy : y = hf b) (hq : a.natAbs ≤ 2 ^ 53 ∧ b.natAbs ≤ 2 ^ 53 ∧ (a + b).natAbs ≤ 2 ^ 53)
    (h : Q (.float (hf (a + b)) s.toks) { s with toks := s.toks + 1 }) : wpAny (model prog w) A (binaryOp .Add (.float x t) (.float y u)) Q E s := by
  subst hx hy; exact add_float (by rw [add_hf hq.1 hq.2.1 hq.2.2]; exact h)
theorem w_sub_ff (hx : x = hf a) (hy : y = hf b) (hq : a.natAbs ≤ 2 ^ 53 ∧ b.natAbs ≤ 2 ^ 53 ∧ (a - b).natAbs ≤ 2 ^ 53)
    (h : Q (.float (hf (a - b)) s.toks) { s with toks := s.toks + 1 }) : wpAny (model prog w) A (binaryOp .Sub (.float x t) (.float y u)) Q E s := by
  subst hx hy; exact sub_float (by rw [sub_hf hq.1 hq.2.1 hq.2.2]; exact h)
theorem w_add_fi (hx : x = hf a) (hq : a.natAbs ≤ 2 ^ 53 ∧ (2 * n).natAbs ≤ 2 ^ 53 ∧ (a + 2 * n).natAbs ≤ 2 ^ 53)
    (h : Q (.float (hf (a + 2 * n)) s.toks) { s with toks := s.toks + 1 }) : wpAny (model prog w) A (binaryOp .Add (.float x t) (.int n u)) Q E s := by
  subst hx; exact add_fi_fits (fits_small (by omega)) (by rw [ofInt_hf hq.2.1, add_hf hq.1 hq.2.1 hq.2.2]; exact h)
theorem w_add_if (hx : x = hf a) (hq : a.natAbs ≤ 2 ^ 53 ∧ (2 * n).natAbs ≤ 2 ^ 53 ∧ (2 * n + a).natAbs ≤ 2 ^ 53)
    (h : Q (.float (hf (2 * n + a)) s.toks) { s with toks := s.toks + 1 }) : wpAny (model prog w) A (binaryOp .Add (.int n u) (.float x t)) Q E s := by
  subst hx; exact add_if_fits (fits_small (by omega)) (by rw [ofInt_hf hq.2.1, add_hf hq.2.1 hq.1 hq.2.2]; exact h)
theorem w_sub_fi (hx : x = hf a) (hq : a.natAbs ≤ 2 ^ 53 ∧ (2 * n).natAbs ≤ 2 ^ 53 ∧ (a - 2 * n).natAbs ≤ 2 ^ 53)
    (h : Q (.float (hf (a - 2 * n)) s.toks) { s with toks := s.toks + 1 }) : wpAny (model prog w) A (binaryOp .Sub (.float x t) (.int n u)) Q E s := by
  subst hx; exact sub_fi_fits (fits_small (by omega)) (by rw [ofInt_hf hq.2.1, sub_hf hq.1 hq.2.1 hq.2.2]; exact h)
theorem w_sub_if (hx : x = hf a) (hq : a.natAbs ≤ 2 ^ 53 ∧ (2 * n).natAbs ≤ 2 ^ 53 ∧ (2 * n - a).natAbs ≤ 2 ^ 53)
    (h : Q (.float (hf (2 * n - a)) s.toks) { s with toks := s.toks + 1 }) : wpAny (model prog w) A (binaryOp .Sub (.int n u) (.float x t)) Q E s := by
  subst hx; exact sub_if_fits (fits_small (by omega)) (by rw [ofInt_hf hq.2.1, sub_hf hq.2.1 hq.1 hq.2.2]; exact h)
theorem w_mul_fi (hx : x = hf a) (hq : 0 < a ∧ a.natAbs ≤ 2 ^ 53 ∧ (2 * n).natAbs ≤ 2 ^ 53 ∧ (a * n).natAbs ≤ 2 ^ 53)
    (h : Q (.float (hf (a * n)) s.toks) { s with toks := s.toks + 1 }) : wpAny (model prog w) A (binaryOp .Mult (.float x t) (.int n u)) Q E s := by
  subst hx; exact mul_fi_fits (fits_small (by omega)) (by rw [ofInt_hf hq.2.2.1, mul_hf hq.2.1 hq.2.2.1 hq.2.2.2 (.inl hq.1) (by ac_rfl)]; exact h)
theorem w_mul_if (hx : x = hf a) (hq : 0 < n ∧ a.natAbs ≤ 2 ^ 53 ∧ (2 * n).natAbs ≤ 2 ^ 53 ∧ (n * a).natAbs ≤ 2 ^ 53)
    (h : Q (.float (hf (n * a)) s.toks) { s with toks := s.toks + 1 }) : wpAny (model prog w) A (binaryOp .Mult (.int n u) (.float x t)) Q E s := by
  subst hx; exact mul_if_fits (fits_small (by omega)) (by rw [ofInt_hf hq.2.2.1, mul_hf hq.2.2.1 hq.2.1 hq.2.2.2 (.inl (by omega)) (by ac_rfl)]; exact h)
theorem w_div_ii (hA : A.handled = none) (hq : 0 < b ∧ a.natAbs + b.natAbs ≤ 2 ^ 50)
    (h : ∀ q, FQ q a b → Q (.float q s.toks) { s with toks := s.toks + 1 }) : wpAny (model prog w) A (binaryOp .Div (.int a t) (.int b u)) Q E s :=
  Flt.div_ii_fits hA (fits_small (by omega)) (fun e => by omega) fun _ _ => h _ (fq_frac hq.1 hq.2)
theorem w_div_fi (hA : A.handled = none) (hx : x = hf a) (hq : 0 < n ∧ a.natAbs + (2 * n).natAbs ≤ 2 ^ 50)
    (h : ∀ q, FQ q a (2 * n) → Q (.float q s.toks) { s with toks := s.toks + 1 }) : wpAny (model prog w) A (binaryOp .Div (.float x t) (.int n u)) Q E s := by
  subst hx
  refine Flt.truediv_fi hA (fun o => absurd o (over_small (by omega))) (fun e => by omega) fun _ _ => ?_
  rw [ofInt_hf (by omega)]
  exact h _ (fq_div (by omega) hq.2)
theorem w_div_ff (hA : A.handled = none) (hx : x = hf a) (hy : y = hf b) (hq : 0 < b ∧ a.natAbs + b.natAbs ≤ 2 ^ 50)
    (h : ∀ q, FQ q a b → Q (.float q s.toks) { s with toks := s.toks + 1 }) : wpAny (model prog w) A (binaryOp .Div (.float x t) (.float y u)) Q E s := by
  subst hx hy
  exact truediv_float_or hA (fun z => absurd z (hf_nonzero (by omega) (by omega))) fun _ => h _ (fq_div hq.1 hq.2)
theorem fin_not_nan {x : UInt64} (h : Float64.isFinite x = true) : ¬ Float64.isNaN x = true := by
  intro q; rw [Flt.not_nan_of_finite h] at q; cases q
theorem fin_not_inf {x : UInt64} (h : Float64.isFinite x = true) : ¬ Float64.isInf x = true := by
  intro q; rw [Flt.not_inf_of_finite h] at q; cases q
theorem w_floor_q (hA : A.handled = none) (f : FQ x a b) (h : ∀ z : Int, z = a / b → Q (.int z s.toks) { s with toks := s.toks + 1 }) : wpAny (model prog w) A (call (.builtin "math.floor") [.float x t]) Q E s :=
  Flt.call_floor_float hA (fun q => absurd q (fin_not_nan f.fin)) (fun q => absurd q (fin_not_inf f.fin)) fun _ => by rw [f.floor]; exact h _ rfl
theorem w_ceil_q (hA : A.handled = none) (f : FQ x a b) (h : ∀ z : Int, z = -((-a) / b) → Q (.int z s.toks) { s with toks := s.toks + 1 }) : wpAny (model prog w) A (call (.builtin "math.ceil") [.float x t]) Q E s :=
  Flt.call_ceil_float hA (fun q => absurd q (fin_not_nan f.fin)) (fun q => absurd q (fin_not_inf f.fin)) fun _ => by rw [f.ceil]; exact h _ rfl
theorem w_floor_h (hA : A.handled = none) (hx : x = hf a) (hq : a.natAbs ≤ 2 ^ 53) (h : ∀ z : Int, z = a / 2 → Q (.int z s.toks) { s with toks := s.toks + 1 }) : wpAny (model prog w) A (call (.builtin "math.floor") [.float x t]) Q E s := by
  subst hx
  exact Flt.call_floor_float hA (fun q => absurd q (fin_not_nan (finite_hf hq))) (fun q => absurd q (fin_not_inf (finite_hf hq))) fun _ => by rw [floor_hf hq]; exact h _ rfl
theorem w_ceil_h (hA : A.handled = none) (hx : x = hf a) (hq : a.natAbs ≤ 2 ^ 53) (h : ∀ z : Int, z = -((-a) / 2) → Q (.int z s.toks) { s with toks := s.toks + 1 }) : wpAny (model prog w) A (call (.builtin "math.ceil") [.float x t]) Q E s := by
  subst hx
  exact Flt.call_ceil_float hA (fun q => absurd q (fin_not_nan (finite_hf hq))) (fun q => absurd q (fin_not_inf (finite_hf hq))) fun _ => by rw [ceil_hf hq]; exact h _ rfl
theorem w_int_h (hA : A.handled = none) (hx : x = hf a) (hq : a % 2 = 0 ∧ a.natAbs ≤ 2 ^ 53) (h : ∀ z : Int, z = a / 2 → Q (.int z s.toks) { s with toks := s.toks + 1 }) : wpAny (model prog w) A (call (.type "int") [.float x t]) Q E s := by
  subst hx
  refine Flt.call_int_float3 hA (fun q => absurd q (fin_not_nan (finite_hf hq.2))) (fun q => absurd q (fin_not_inf (finite_hf hq.2))) fun _ => ?_
  have e : a = 2 * (a / 2) := by omega
  have e2 : Flt.toInt Float64.truncOf (hf a) = a / 2 := by
    generalize a / 2 = k at e
    subst e
    exact trunc_hf hq.2
  rw [e2]; exact h _ rfl
theorem w_ne_fi (hx : x = hf a) (hq : a.natAbs ≤ 2 ^ 53) (h : Q (.bool (decide (a ≠ 2 * n))) s) : wpAny (model prog w) A (compareOp .NotEq (.float x t) (.int n u)) Q E s := by
  subst hx
  refine ne_fi ?_
  rw [cmpInt_hf hq]
  have e : (some (compare a (2 * n)) != some Ordering.eq) = decide (a ≠ 2 * n) := by
    rcases Int.lt_trichotomy a (2 * n) with q | q | q
    · rw [Int.compare_eq_lt.mpr q, decide_eq_true (show a ≠ 2 * n by omega)]; rfl
    · rw [q]; simp
    · rw [Int.compare_eq_gt.mpr q, decide_eq_true (show a ≠ 2 * n by omega)]; rfl
  rw [e]; exact h
theorem w_eq_ff (hx : x = hf a) (hy : y = hf b) (hq : a = b ∧ a.natAbs ≤ 2 ^ 53) (h : Q (.bool true) s) : wpAny (model prog w) A (compareOp .Eq (.float x t) (.float y u)) Q E s := by
  subst hx hy
  obtain ⟨rfl, hq⟩ := hq
  refine AutoFloatOps.eq_0 ?_
  rw [cmp_hf hq]; exact h
end
section
variable {h₀ h' : Heap} {L : Addr} {m : Str → Option Value} {news : List (Addr × Obj)} {s : Shared} {Q : Value → Shared → Prop} {t : Tok} {tk' : Nat}
theorem w_retF {G : Prop} {x y : UInt64} (hret : ∀ (t : Tok) (h' : Heap) (tk' : Nat), Fr h₀ L h' m → News h₀ L h' news → G → Q (.float x t) { s with heap := h', toks := tk' }) (e : y = x) (F : Fr h₀ L h' m) (N : News h₀ L h' news) (g : G) : Q (.float y t) { s with heap := h', toks := tk' } := by
  subst e
  exact hret t h' tk' F N g
theorem w_retI {G : Prop} {x y : Int} (hret : ∀ (t : Tok) (h' : Heap) (tk' : Nat), Fr h₀ L h' m → News h₀ L h' news → G → Q (.int x t) { s with heap := h', toks := tk' }) (e : y = x) (F : Fr h₀ L h' m) (N : News h₀ L h' news) (g : G) : Q (.int y t) { s with heap := h', toks := tk' } := by
  subst e
  exact hret t h' tk' F N g
end
/-- the Islamic day count, an int: to_jd's answer is this less a half -/
def jdn (y m d : Int) : Int := d + (29 * (m - 1) + m / 2) + (y - 1) * 354 + (3 + 11 * y) / 30 + 1948439
/-- the first day of an Islamic year -/
def first (y : Int) : Int := 1948440 + 354 * (y - 1) + (3 + 11 * y) / 30
abbrev Yb (y : Int) : Prop := -20000000 ≤ y ∧ y ≤ 20000000
abbrev Bd (y m d : Int) : Prop := -20000000 ≤ y ∧ y ≤ 20000000 ∧ -1000000000 ≤ m ∧ m ≤ 1000000000 ∧ -1000 ≤ d ∧ d ≤ 1000
theorem w_in_tup {prog : Program} {w : World} {A : Around} {E : Value → Shared → Prop} {s : Shared} {K : Frag} {h₀ : Heap} {L l : Addr} {m : Str → Option Value} {vs : List Value} {ns : List Int} {k : Int} {t : Tok} {n : Nat} {Q : Value → Shared → Prop}
    (F : Fr h₀ L s.heap m) (X₀ : K.In h₀) (hl : K.lookup l = some ⟨.type "tuple", none, .seq vs.toArray n, #[]⟩) (hi : IntsAre vs ns) (h : Q (.bool (ns.any (· == k))) s) : wpAny (model prog w) A (compareOp .In (.int k t) (.ref l)) Q E s := by
  refine SeqAt.in_tupleAt (isInt k) (items := vs.toArray) ⟨_, (X₀.keeps F.keep) _ _ hl, rfl, n, rfl⟩ (fun y hy => (eq_isInt k t hi y (by simpa using hy)).at _ _) ?_
  rw [← Array.any_toList, show vs.toArray.toList = vs from rfl, any_isInt k hi]; exact h
def c512 : UInt64 := Float64.ofFrac false 5 12
def c512a : UInt64 := Float64.add c512 (Float64.ofInt 0)
def c512b : UInt64 := Float64.add c512a (Float64.ofInt 1)
section
variable {prog : Program} {w : World} {A : Around} {E : Value → Shared → Prop} {s : Shared} {n : Int} {t u : Tok} {Q : Value → Shared → Prop}
theorem w_div_512 (hA : A.handled = none) (hn : n = 5) (h : Q (.float c512 s.toks) { s with toks := s.toks + 1 }) : wpAny (model prog w) A (binaryOp .Div (.int n t) (.int 12 u)) Q E s := by
  subst hn
  exact Flt.div_ii_fits hA (by decide +kernel) (fun e => absurd e (by decide)) fun _ _ => h
theorem w_add_512a (h : Q (.float c512a s.toks) { s with toks := s.toks + 1 }) : wpAny (model prog w) A (binaryOp .Add (.float c512 t) (.int 0 u)) Q E s :=
  add_fi_fits (by decide +kernel) h
theorem w_add_512b (h : Q (.float c512b s.toks) { s with toks := s.toks + 1 }) : wpAny (model prog w) A (binaryOp .Add (.float c512a t) (.int 1 u)) Q E s :=
  add_fi_fits (by decide +kernel) h
theorem fin_512 : Float64.isFinite c512b = true := by decide +kernel
theorem floor_512 : Flt.toInt Float64.floorOf c512b = 1 := by decide +kernel
theorem w_floor_512 (hA : A.handled = none) (h : Q (.int 1 s.toks) { s with toks := s.toks + 1 }) : wpAny (model prog w) A (call (.builtin "math.floor") [.float c512b t]) Q E s :=
  Flt.call_floor_float hA (fun q => absurd q (fin_not_nan fin_512)) (fun q => absurd q (fin_not_inf fin_512)) fun _ => by rw [floor_512]; exact h
end
theorem w_min {prog : Program} {w : World} {A : Around} {E : Value → Shared → Prop} {s : Shared} {h₀ : Heap} {L : Addr} {m : Str → Option Value} {news : List (Addr × Obj)} {a b : Int} {t u : Tok} {Q : Value → Shared → Prop} (hh : A.handled = none) (F : Fr h₀ L s.heap m) (N : News h₀ L s.heap news)
    (h : ∀ (r : Int) (t : Tok) (h' : Heap) (tk : Nat), r = min a b → Fr h₀ L h' m → News h₀ L h' news → Q (.int r t) { s with heap := h', toks := tk }) : wpAny (model prog w) A (call (.builtin "min") [.int a t, .int b u]) Q E s :=
  min_two_N hh F N fun h' tk F' N' => h _ _ h' tk (by split <;> omega) F' N'
abbrev Clm (k : Nat) (prog : Program) (w : World) (K : Frag) (p : Program) (loose : List Str) (mean : ExcName → Option Value) (mg mb : Str → Option Value) (f : Addr) (news : List (Addr × Obj)) (pre G : Prop) (vs : List Value) (R : Tok → Value) : Prop :=
  ∀ (dp un : Nat) (gd : Option (List Code)) (cn : Str) (cs : Scope) (a : Addr) (ccd : Value) (cl : List (Str × Addr)) (outer : List Env) (A₀ : Around) (base h₀ : Heap) (L : Addr) (m : Str → Option Value) (s : Shared) (Q E : Value → Shared → Prop),
    Below A₀ base outer h₀ → Fr h₀ L s.heap m → K.In h₀ → News h₀ L s.heap news → Top p loose mean mg mb h₀ → cs.kind = .function → pre → dp + k < recursionLimit → un + 4 * k + 8 < cLine → (∀ (t : Tok) (h' : Heap) (tk' : Nat), Fr h₀ L h' m → News h₀ L h' news → G → Q (R t) { s with heap := h', toks := tk' }) →
      wpAny (model prog w) (ktrTop dp un gd cn cs L a ccd cl outer) (call (.ref f) vs) Q E s
theorem cb_use {k : Nat} {prog : Program} {w : World} {K : Frag} {p : Program} {loose : List Str} {mean : ExcName → Option Value} {mg mb : Str → Option Value} {f : Addr} {news : List (Addr × Obj)} {pre G : Prop} {vs : List Value} {R : Tok → Value}
    (C : Clm k prog w K p loose mean mg mb f news pre G vs R) {dp un : Nat} {gd : Option (List Code)} {cn : Str} {cs : Scope} {a : Addr} {ccd : Value} {cl : List (Str × Addr)} {outer : List Env} {A₀ : Around} {base h₀ : Heap} {L : Addr} {m : Str → Option Value} {s : Shared} {Q E : Value → Shared → Prop}
    (B : Below A₀ base outer h₀) (F : Fr h₀ L s.heap m) (X : K.In h₀) (N : News h₀ L s.heap news) (T : Top p loose mean mg mb h₀) (hk : cs.kind = .function) (hp : pre) (hd : dp + k < recursionLimit) (hu : un + 4 * k + 8 < cLine)
    (ret : ∀ (t : Tok) (h' : Heap) (tk' : Nat), Fr h₀ L h' m → News h₀ L h' news → G → Q (R t) { s with heap := h', toks := tk' }) :
    wpAny (model prog w) (ktrTop dp un gd cn cs L a ccd cl outer) (call (.ref f) vs) Q E s := C _ _ _ _ _ _ _ _ _ _ _ _ _ _ _ _ _ B F X N T hk hp hd hu ret
/-- the midnight count of 1 January, an int -/
def jan (g : Int) : Int := 365 * (g - 1) + (g - 1) / 4 - (g - 1) / 100 + (g - 1) / 400 + 1721426
theorem fdiv_pos_eq {a b : Int} (h : 0 ≤ b) : a.fdiv b = a / b := Int.fdiv_eq_ediv_of_nonneg _ h
theorem fmod_pos_eq {a b : Int} (h : 0 ≤ b) : a.fmod b = a % b := Int.fmod_eq_emod_of_nonneg _ h
/-! 4. The walk of each def, once, as a contract: to_jd of islamic, _law_first, _law_january, _law_ahead, legal_date, to_jd of gregorian. -/
section
local macro_rules | `(tactic| walk_at "binaryOp Add float float") => `(tactic| (k_here; refine' w_add_ff ?k1 ?k2 ?k3 ?_; (case k1 => first | with_reducible exact lit_isl | with_reducible exact lit_gre | with_reducible exact lit_295 | with_reducible exact lit_05 | with_reducible rfl); (case k2 => first | with_reducible exact lit_isl | with_reducible exact lit_gre | with_reducible exact lit_295 | with_reducible exact lit_05 | with_reducible rfl); (case k3 => omega); (try dsimp only)))
local macro_rules | `(tactic| walk_at "binaryOp Sub float float") => `(tactic| (k_here; refine' w_sub_ff ?k1 ?k2 ?k3 ?_; (case k1 => first | with_reducible exact lit_isl | with_reducible exact lit_gre | with_reducible exact lit_295 | with_reducible exact lit_05 | with_reducible rfl); (case k2 => first | with_reducible exact lit_isl | with_reducible exact lit_gre | with_reducible exact lit_295 | with_reducible exact lit_05 | with_reducible rfl); (case k3 => omega); (try dsimp only)))
local macro_rules | `(tactic| walk_at "binaryOp Add float int") => `(tactic| (k_here; refine' w_add_fi ?k1 ?k3 ?_; (case k1 => first | with_reducible exact lit_isl | with_reducible exact lit_gre | with_reducible exact lit_295 | with_reducible exact lit_05 | with_reducible rfl); (case k3 => omega); (try dsimp only)))
local macro_rules | `(tactic| walk_at "binaryOp Add int float") => `(tactic| (k_here; refine' w_add_if ?k1 ?k3 ?_; (case k1 => first | with_reducible exact lit_isl | with_reducible exact lit_gre | with_reducible exact lit_295 | with_reducible exact lit_05 | with_reducible rfl); (case k3 => omega); (try dsimp only)))
local macro_rules | `(tactic| walk_at "binaryOp Sub float int") => `(tactic| (k_here; refine' w_sub_fi ?k1 ?k3 ?_; (case k1 => first | with_reducible exact lit_isl | with_reducible exact lit_gre | with_reducible exact lit_295 | with_reducible exact lit_05 | with_reducible rfl); (case k3 => omega); (try dsimp only)))
local macro_rules | `(tactic| walk_at "binaryOp Sub int float") => `(tactic| (k_here; refine' w_sub_if ?k1 ?k3 ?_; (case k1 => first | with_reducible exact lit_isl | with_reducible exact lit_gre | with_reducible exact lit_295 | with_reducible exact lit_05 | with_reducible rfl); (case k3 => omega); (try dsimp only)))
local macro_rules | `(tactic| walk_at "binaryOp Mult float int") => `(tactic| (k_here; refine' w_mul_fi ?k1 ?k3 ?_; (case k1 => first | with_reducible exact lit_isl | with_reducible exact lit_gre | with_reducible exact lit_295 | with_reducible exact lit_05 | with_reducible rfl); (case k3 => omega); (try dsimp only)))
local macro_rules | `(tactic| walk_at "binaryOp Mult int float") => `(tactic| (k_here; refine' w_mul_if ?k1 ?k3 ?_; (case k1 => first | with_reducible exact lit_isl | with_reducible exact lit_gre | with_reducible exact lit_295 | with_reducible exact lit_05 | with_reducible rfl); (case k3 => omega); (try dsimp only)))
local macro_rules | `(tactic| walk_at "binaryOp Div int int") => `(tactic| (k_here; refine' w_div_ii rfl ?k3 ?_; (case k3 => omega); intro q9 hq9; (try dsimp only)))
local macro_rules | `(tactic| walk_at "binaryOp Div float int") => `(tactic| (k_here; refine' w_div_fi rfl ?k1 ?k3 ?_; (case k1 => first | with_reducible exact lit_isl | with_reducible exact lit_gre | with_reducible exact lit_295 | with_reducible exact lit_05 | with_reducible rfl); (case k3 => omega); intro q9 hq9; (try dsimp only)))
local macro_rules | `(tactic| walk_at "binaryOp Div float float") => `(tactic| (k_here; refine' w_div_ff rfl ?k1 ?k2 ?k3 ?_; (case k1 => first | with_reducible exact lit_isl | with_reducible exact lit_gre | with_reducible exact lit_295 | with_reducible exact lit_05 | with_reducible rfl); (case k2 => first | with_reducible exact lit_isl | with_reducible exact lit_gre | with_reducible exact lit_295 | with_reducible exact lit_05 | with_reducible rfl); (case k3 => omega); intro q9 hq9; (try dsimp only)))
local macro_rules | `(tactic| walk_at "call builtin:math.floor") => `(tactic| (k_here; (with_reducible show wpAny _ _ (call _ [Value.float _ _]) _ _ _); first | (refine' w_floor_q rfl ?k1 ?_; (case k1 => with_reducible assumption)) | (refine' w_floor_h rfl ?k1 ?k3 ?_; (case k1 => first | with_reducible exact lit_isl | with_reducible exact lit_gre | with_reducible exact lit_295 | with_reducible exact lit_05 | with_reducible rfl); (case k3 => omega)); (intro z9 hz9; try dsimp only)))
local macro_rules | `(tactic| walk_at "call builtin:math.ceil") => `(tactic| (k_here; (with_reducible show wpAny _ _ (call _ [Value.float _ _]) _ _ _); first | (refine' w_ceil_q rfl ?k1 ?_; (case k1 => with_reducible assumption)) | (refine' w_ceil_h rfl ?k1 ?k3 ?_; (case k1 => first | with_reducible exact lit_isl | with_reducible exact lit_gre | with_reducible exact lit_295 | with_reducible exact lit_05 | with_reducible rfl); (case k3 => omega)); (intro z9 hz9; try dsimp only)))
local macro_rules | `(tactic| walk_at "call type:int") => `(tactic| (k_here; (with_reducible show wpAny _ _ (call _ [Value.float _ _]) _ _ _); refine' w_int_h rfl ?k1 ?k3 ?_; (case k1 => with_reducible rfl); (case k3 => omega); (intro z9 hz9; try dsimp only)))
local macro_rules | `(tactic| walk_at "compareOp NotEq float int") => `(tactic| (k_here; refine' w_ne_fi ?k1 ?k3 ?_; (case k1 => with_reducible rfl); (case k3 => omega); (try dsimp only)))
local macro_rules | `(tactic| walk_at "compareOp Eq float float") => `(tactic| (k_here; refine' w_eq_ff ?k1 ?k2 ?k3 ?_; (case k1 => with_reducible rfl); (case k2 => with_reducible rfl); (case k3 => omega); (try dsimp only)))
local macro_rules | `(tactic| walk_at "call builtin:min") => `(tactic| (k_here; (with_reducible show wpAny _ _ (call (Value.builtin _) [Value.int _ _, Value.int _ _]) _ _ _); k_dflt (refine' w_min ?k1 ?k2 ?k3 ?_; (case k1 => exact rfl); (case k2 => k_asm); (case k3 => k_asm); k_whole); intro r9 t9 h9 tk9 hr9 F9 N9; (try dsimp only)))
set_option maxRecDepth 100000 in
set_option maxHeartbeats 8000000 in
theorem c_jdi (w : World) (mean : ExcName → Option Value) (mg mb : Str → Option Value) (news : List (Addr × Obj)) (y m d : Int) (t1 t2 t3 : Tok) :
    Clm 2 PySem.Challenge.rw_bd6011_01.row.prog w (hd.heap_39 w.params) hd.view_39 (looseW hd.view_39 [Str.ofString "to_jd_gregorian", Str.ofString "to_jd_islamic"]) mean mg mb 71 news (Bd y m d) (-8000000000 ≤ jdn y m d - (29 * (m - 1) + m / 2) ∧ jdn y m d - (29 * (m - 1) + m / 2) ≤ 8000000000) [.int y t1, .int m t2, .int d t3] (fun t => .float (hf (2 * jdn y m d - 1)) t) := by
  w_top off
  k_fill
  dsimp only [Clm, Yb, Bd]
  intro dp un gd cn cs a ccd cl outer A₀ base h₀ L mm s Q E B F K N T hk hpre hd hu hret
  refine wpAny_call ?_
  k_dflt cell_enter
  k_steps
  all_goals (refine w_retF hret ?_ (by k_asm) (by k_asm) (by unfold jdn; omega); congr 1; unfold jdn; omega)
end
theorem first_sum {y p q r0 r1 r2 r3 r4 r5 r6 r7 r8 r9 r10 r11 : Int} (hp : 0 ≤ p) (hp2 : p < 30) (hy : y - 1 = 30 * q + p) (h0 : r0 = 1948440 + 10631 * q + 354 * p)
    (h1 : r1 = if 2 ≤ p then r0 + 1 else r0) (h2 : r2 = if 5 ≤ p then r1 + 1 else r1) (h3 : r3 = if 7 ≤ p then r2 + 1 else r2) (h4 : r4 = if 10 ≤ p then r3 + 1 else r3) (h5 : r5 = if 13 ≤ p then r4 + 1 else r4)
    (h6 : r6 = if 16 ≤ p then r5 + 1 else r5) (h7 : r7 = if 18 ≤ p then r6 + 1 else r6) (h8 : r8 = if 21 ≤ p then r7 + 1 else r7) (h9 : r9 = if 24 ≤ p then r8 + 1 else r8) (h10 : r10 = if 26 ≤ p then r9 + 1 else r9)
    (h11 : r11 = if 29 ≤ p then r10 + 1 else r10) : r11 = first y := by
  have e : y = 30 * q + p + 1 := by omega
  subst e
  have : first (30 * q + p + 1) = 1948440 + 10631 * q + 354 * p + (14 + 11 * p) / 30 := by unfold first; omega
  rw [this]
  clear hy this
  subst h0
  obtain ⟨n, rfl⟩ := Int.eq_ofNat_of_zero_le hp
  have hn : n < 30 := by omega
  clear hp hp2
  have key : ∀ n : Nat, n < 30 → (if (29 : Int) ≤ n then 1 else 0 : Int) + (if (26 : Int) ≤ n then 1 else 0) + (if (24 : Int) ≤ n then 1 else 0) + (if (21 : Int) ≤ n then 1 else 0) + (if (18 : Int) ≤ n then 1 else 0) + (if (16 : Int) ≤ n then 1 else 0) + (if (13 : Int) ≤ n then 1 else 0) + (if (10 : Int) ≤ n then 1 else 0) + (if (7 : Int) ≤ n then 1 else 0) + (if (5 : Int) ≤ n then 1 else 0) + (if (2 : Int) ≤ n then 1 else 0) = (14 + 11 * (n : Int)) / 30 := by decide +kernel
  have k := key n hn
  have st : ∀ {c : Prop} [Decidable c] {a b : Int}, b = (if c then a + 1 else a) → b = a + (if c then 1 else 0) := by
    intro c _ a b h
    rw [h]; split <;> omega
  have h1 := st h1
  have h2 := st h2
  have h3 := st h3
  have h4 := st h4
  have h5 := st h5
  have h6 := st h6
  have h7 := st h7
  have h8 := st h8
  have h9 := st h9
  have h10 := st h10
  have h11 := st h11
  rw [← k]
  omega
theorem joined {c : Prop} [Decidable c] {r v a : Int} (h : (c ∧ r = v) ∨ (¬ c ∧ r = a)) : r = if c then v else a := by
  rcases h with ⟨h, e⟩ | ⟨h, e⟩
  · rw [if_pos h, e]
  · rw [if_neg h, e]
section
local macro_rules | `(tactic| walk_at "binaryOp Add float float") => `(tactic| (k_here; refine' w_add_ff ?k1 ?k2 ?k3 ?_; (case k1 => first | with_reducible exact lit_isl | with_reducible exact lit_gre | with_reducible exact lit_295 | with_reducible exact lit_05 | with_reducible rfl); (case k2 => first | with_reducible exact lit_isl | with_reducible exact lit_gre | with_reducible exact lit_295 | with_reducible exact lit_05 | with_reducible rfl); (case k3 => omega); (try dsimp only)))
local macro_rules | `(tactic| walk_at "binaryOp Sub float float") => `(tactic| (k_here; refine' w_sub_ff ?k1 ?k2 ?k3 ?_; (case k1 => first | with_reducible exact lit_isl | with_reducible exact lit_gre | with_reducible exact lit_295 | with_reducible exact lit_05 | with_reducible rfl); (case k2 => first | with_reducible exact lit_isl | with_reducible exact lit_gre | with_reducible exact lit_295 | with_reducible exact lit_05 | with_reducible rfl); (case k3 => omega); (try dsimp only)))
local macro_rules | `(tactic| walk_at "binaryOp Add float int") => `(tactic| (k_here; refine' w_add_fi ?k1 ?k3 ?_; (case k1 => first | with_reducible exact lit_isl | with_reducible exact lit_gre | with_reducible exact lit_295 | with_reducible exact lit_05 | with_reducible rfl); (case k3 => omega); (try dsimp only)))
local macro_rules | `(tactic| walk_at "binaryOp Add int float") => `(tactic| (k_here; refine' w_add_if ?k1 ?k3 ?_; (case k1 => first | with_reducible exact lit_isl | with_reducible exact lit_gre | with_reducible exact lit_295 | with_reducible exact lit_05 | with_reducible rfl); (case k3 => omega); (try dsimp only)))
local macro_rules | `(tactic| walk_at "binaryOp Sub float int") => `(tactic| (k_here; refine' w_sub_fi ?k1 ?k3 ?_; (case k1 => first | with_reducible exact lit_isl | with_reducible exact lit_gre | with_reducible exact lit_295 | with_reducible exact lit_05 | with_reducible rfl); (case k3 => omega); (try dsimp only)))
local macro_rules | `(tactic| walk_at "binaryOp Sub int float") => `(tactic| (k_here; refine' w_sub_if ?k1 ?k3 ?_; (case k1 => first | with_reducible exact lit_isl | with_reducible exact lit_gre | with_reducible exact lit_295 | with_reducible exact lit_05 | with_reducible rfl); (case k3 => omega); (try dsimp only)))
local macro_rules | `(tactic| walk_at "binaryOp Mult float int") => `(tactic| (k_here; refine' w_mul_fi ?k1 ?k3 ?_; (case k1 => first | with_reducible exact lit_isl | with_reducible exact lit_gre | with_reducible exact lit_295 | with_reducible exact lit_05 | with_reducible rfl); (case k3 => omega); (try dsimp only)))
local macro_rules | `(tactic| walk_at "binaryOp Mult int float") => `(tactic| (k_here; refine' w_mul_if ?k1 ?k3 ?_; (case k1 => first | with_reducible exact lit_isl | with_reducible exact lit_gre | with_reducible exact lit_295 | with_reducible exact lit_05 | with_reducible rfl); (case k3 => omega); (try dsimp only)))
local macro_rules | `(tactic| walk_at "binaryOp Div int int") => `(tactic| (k_here; refine' w_div_ii rfl ?k3 ?_; (case k3 => omega); intro q9 hq9; (try dsimp only)))
local macro_rules | `(tactic| walk_at "binaryOp Div float int") => `(tactic| (k_here; refine' w_div_fi rfl ?k1 ?k3 ?_; (case k1 => first | with_reducible exact lit_isl | with_reducible exact lit_gre | with_reducible exact lit_295 | with_reducible exact lit_05 | with_reducible rfl); (case k3 => omega); intro q9 hq9; (try dsimp only)))
local macro_rules | `(tactic| walk_at "binaryOp Div float float") => `(tactic| (k_here; refine' w_div_ff rfl ?k1 ?k2 ?k3 ?_; (case k1 => first | with_reducible exact lit_isl | with_reducible exact lit_gre | with_reducible exact lit_295 | with_reducible exact lit_05 | with_reducible rfl); (case k2 => first | with_reducible exact lit_isl | with_reducible exact lit_gre | with_reducible exact lit_295 | with_reducible exact lit_05 | with_reducible rfl); (case k3 => omega); intro q9 hq9; (try dsimp only)))
local macro_rules | `(tactic| walk_at "call builtin:math.floor") => `(tactic| (k_here; (with_reducible show wpAny _ _ (call _ [Value.float _ _]) _ _ _); first | (refine' w_floor_q rfl ?k1 ?_; (case k1 => with_reducible assumption)) | (refine' w_floor_h rfl ?k1 ?k3 ?_; (case k1 => first | with_reducible exact lit_isl | with_reducible exact lit_gre | with_reducible exact lit_295 | with_reducible exact lit_05 | with_reducible rfl); (case k3 => omega)); (intro z9 hz9; try dsimp only)))
local macro_rules | `(tactic| walk_at "call builtin:math.ceil") => `(tactic| (k_here; (with_reducible show wpAny _ _ (call _ [Value.float _ _]) _ _ _); first | (refine' w_ceil_q rfl ?k1 ?_; (case k1 => with_reducible assumption)) | (refine' w_ceil_h rfl ?k1 ?k3 ?_; (case k1 => first | with_reducible exact lit_isl | with_reducible exact lit_gre | with_reducible exact lit_295 | with_reducible exact lit_05 | with_reducible rfl); (case k3 => omega)); (intro z9 hz9; try dsimp only)))
local macro_rules | `(tactic| walk_at "call type:int") => `(tactic| (k_here; (with_reducible show wpAny _ _ (call _ [Value.float _ _]) _ _ _); refine' w_int_h rfl ?k1 ?k3 ?_; (case k1 => with_reducible rfl); (case k3 => omega); (intro z9 hz9; try dsimp only)))
local macro_rules | `(tactic| walk_at "compareOp NotEq float int") => `(tactic| (k_here; refine' w_ne_fi ?k1 ?k3 ?_; (case k1 => with_reducible rfl); (case k3 => omega); (try dsimp only)))
local macro_rules | `(tactic| walk_at "compareOp Eq float float") => `(tactic| (k_here; refine' w_eq_ff ?k1 ?k2 ?k3 ?_; (case k1 => with_reducible rfl); (case k2 => with_reducible rfl); (case k3 => omega); (try dsimp only)))
local macro_rules | `(tactic| walk_at "call builtin:min") => `(tactic| (k_here; (with_reducible show wpAny _ _ (call (Value.builtin _) [Value.int _ _, Value.int _ _]) _ _ _); k_dflt (refine' w_min ?k1 ?k2 ?k3 ?_; (case k1 => exact rfl); (case k2 => k_asm); (case k3 => k_asm); k_whole); intro r9 t9 h9 tk9 hr9 F9 N9; (try dsimp only)))

local macro_rules | `(tactic| walk_at "exec If") => `(tactic| (k_here; kj_step))
set_option maxRecDepth 100000 in
set_option maxHeartbeats 8000000 in
theorem c_first (w : World) (mean : ExcName → Option Value) (mg mb : Str → Option Value) (news : List (Addr × Obj)) (y : Int) (t1 : Tok) :
    Clm 2 PySem.Challenge.rw_bd6011_01.row.prog w (hd.heap_39 w.params) hd.view_39 (looseW hd.view_39 [Str.ofString "to_jd_gregorian", Str.ofString "to_jd_islamic"]) mean mg mb 106 news (Yb y) (-6000000 ≤ first y - 354 * y ∧ first y - 354 * y ≤ 11000000) [.int y t1] (fun t => .int (first y) t) := by
  w_top off
  k_fill
  dsimp only [Clm, Yb, Bd]
  intro dp un gd cn cs a ccd cl outer A₀ base h₀ L mm s Q E B F K N T hk hpre hd hu hret
  refine wpAny_call ?_
  k_dflt cell_enter
  k_steps
  refine w_retI hret ?_ (by k_asm) (cb_drop (by with_reducible assumption) (by kcj_all)) (by unfold first; omega)
  have hp := Int.fmod_nonneg_of_pos (y - 1) (show (0 : Int) < 30 by decide)
  have hp2 := Int.fmod_lt_of_pos (y - 1) (show (0 : Int) < 30 by decide)
  have hy : y - 1 = 30 * (y - 1).fdiv 30 + (y - 1).fmod 30 := (Int.mul_fdiv_add_fmod (y - 1) 30).symm
  exact first_sum hp hp2 hy rfl (joined (by with_reducible assumption)) (joined (by with_reducible assumption)) (joined (by with_reducible assumption)) (joined (by with_reducible assumption)) (joined (by with_reducible assumption)) (joined (by with_reducible assumption)) (joined (by with_reducible assumption)) (joined (by with_reducible assumption)) (joined (by with_reducible assumption)) (joined (by with_reducible assumption)) (joined (by with_reducible assumption))
end
section
local macro_rules | `(tactic| walk_at "binaryOp Add float float") => `(tactic| (k_here; refine' w_add_ff ?k1 ?k2 ?k3 ?_; (case k1 => first | with_reducible exact lit_isl | with_reducible exact lit_gre | with_reducible exact lit_295 | with_reducible exact lit_05 | with_reducible rfl); (case k2 => first | with_reducible exact lit_isl | with_reducible exact lit_gre | with_reducible exact lit_295 | with_reducible exact lit_05 | with_reducible rfl); (case k3 => omega); (try dsimp only)))
local macro_rules | `(tactic| walk_at "binaryOp Sub float float") => `(tactic| (k_here; refine' w_sub_ff ?k1 ?k2 ?k3 ?_; (case k1 => first | with_reducible exact lit_isl | with_reducible exact lit_gre | with_reducible exact lit_295 | with_reducible exact lit_05 | with_reducible rfl); (case k2 => first | with_reducible exact lit_isl | with_reducible exact lit_gre | with_reducible exact lit_295 | with_reducible exact lit_05 | with_reducible rfl); (case k3 => omega); (try dsimp only)))
local macro_rules | `(tactic| walk_at "binaryOp Add float int") => `(tactic| (k_here; refine' w_add_fi ?k1 ?k3 ?_; (case k1 => first | with_reducible exact lit_isl | with_reducible exact lit_gre | with_reducible exact lit_295 | with_reducible exact lit_05 | with_reducible rfl); (case k3 => omega); (try dsimp only)))
local macro_rules | `(tactic| walk_at "binaryOp Add int float") => `(tactic| (k_here; refine' w_add_if ?k1 ?k3 ?_; (case k1 => first | with_reducible exact lit_isl | with_reducible exact lit_gre | with_reducible exact lit_295 | with_reducible exact lit_05 | with_reducible rfl); (case k3 => omega); (try dsimp only)))
local macro_rules | `(tactic| walk_at "binaryOp Sub float int") => `(tactic| (k_here; refine' w_sub_fi ?k1 ?k3 ?_; (case k1 => first | with_reducible exact lit_isl | with_reducible exact lit_gre | with_reducible exact lit_295 | with_reducible exact lit_05 | with_reducible rfl); (case k3 => omega); (try dsimp only)))
local macro_rules | `(tactic| walk_at "binaryOp Sub int float") => `(tactic| (k_here; refine' w_sub_if ?k1 ?k3 ?_; (case k1 => first | with_reducible exact lit_isl | with_reducible exact lit_gre | with_reducible exact lit_295 | with_reducible exact lit_05 | with_reducible rfl); (case k3 => omega); (try dsimp only)))
local macro_rules | `(tactic| walk_at "binaryOp Mult float int") => `(tactic| (k_here; refine' w_mul_fi ?k1 ?k3 ?_; (case k1 => first | with_reducible exact lit_isl | with_reducible exact lit_gre | with_reducible exact lit_295 | with_reducible exact lit_05 | with_reducible rfl); (case k3 => omega); (try dsimp only)))
local macro_rules | `(tactic| walk_at "binaryOp Mult int float") => `(tactic| (k_here; refine' w_mul_if ?k1 ?k3 ?_; (case k1 => first | with_reducible exact lit_isl | with_reducible exact lit_gre | with_reducible exact lit_295 | with_reducible exact lit_05 | with_reducible rfl); (case k3 => omega); (try dsimp only)))
local macro_rules | `(tactic| walk_at "binaryOp Div int int") => `(tactic| (k_here; refine' w_div_ii rfl ?k3 ?_; (case k3 => omega); intro q9 hq9; (try dsimp only)))
local macro_rules | `(tactic| walk_at "binaryOp Div float int") => `(tactic| (k_here; refine' w_div_fi rfl ?k1 ?k3 ?_; (case k1 => first | with_reducible exact lit_isl | with_reducible exact lit_gre | with_reducible exact lit_295 | with_reducible exact lit_05 | with_reducible rfl); (case k3 => omega); intro q9 hq9; (try dsimp only)))
local macro_rules | `(tactic| walk_at "binaryOp Div float float") => `(tactic| (k_here; refine' w_div_ff rfl ?k1 ?k2 ?k3 ?_; (case k1 => first | with_reducible exact lit_isl | with_reducible exact lit_gre | with_reducible exact lit_295 | with_reducible exact lit_05 | with_reducible rfl); (case k2 => first | with_reducible exact lit_isl | with_reducible exact lit_gre | with_reducible exact lit_295 | with_reducible exact lit_05 | with_reducible rfl); (case k3 => omega); intro q9 hq9; (try dsimp only)))
local macro_rules | `(tactic| walk_at "call builtin:math.floor") => `(tactic| (k_here; (with_reducible show wpAny _ _ (call _ [Value.float _ _]) _ _ _); first | (refine' w_floor_q rfl ?k1 ?_; (case k1 => with_reducible assumption)) | (refine' w_floor_h rfl ?k1 ?k3 ?_; (case k1 => first | with_reducible exact lit_isl | with_reducible exact lit_gre | with_reducible exact lit_295 | with_reducible exact lit_05 | with_reducible rfl); (case k3 => omega)); (intro z9 hz9; try dsimp only)))
local macro_rules | `(tactic| walk_at "call builtin:math.ceil") => `(tactic| (k_here; (with_reducible show wpAny _ _ (call _ [Value.float _ _]) _ _ _); first | (refine' w_ceil_q rfl ?k1 ?_; (case k1 => with_reducible assumption)) | (refine' w_ceil_h rfl ?k1 ?k3 ?_; (case k1 => first | with_reducible exact lit_isl | with_reducible exact lit_gre | with_reducible exact lit_295 | with_reducible exact lit_05 | with_reducible rfl); (case k3 => omega)); (intro z9 hz9; try dsimp only)))
local macro_rules | `(tactic| walk_at "call type:int") => `(tactic| (k_here; (with_reducible show wpAny _ _ (call _ [Value.float _ _]) _ _ _); refine' w_int_h rfl ?k1 ?k3 ?_; (case k1 => with_reducible rfl); (case k3 => omega); (intro z9 hz9; try dsimp only)))
local macro_rules | `(tactic| walk_at "compareOp NotEq float int") => `(tactic| (k_here; refine' w_ne_fi ?k1 ?k3 ?_; (case k1 => with_reducible rfl); (case k3 => omega); (try dsimp only)))
local macro_rules | `(tactic| walk_at "compareOp Eq float float") => `(tactic| (k_here; refine' w_eq_ff ?k1 ?k2 ?k3 ?_; (case k1 => with_reducible rfl); (case k2 => with_reducible rfl); (case k3 => omega); (try dsimp only)))
local macro_rules | `(tactic| walk_at "call builtin:min") => `(tactic| (k_here; (with_reducible show wpAny _ _ (call (Value.builtin _) [Value.int _ _, Value.int _ _]) _ _ _); k_dflt (refine' w_min ?k1 ?k2 ?k3 ?_; (case k1 => exact rfl); (case k2 => k_asm); (case k3 => k_asm); k_whole); intro r9 t9 h9 tk9 hr9 F9 N9; (try dsimp only)))
set_option maxRecDepth 100000 in
set_option maxHeartbeats 8000000 in
theorem c_jan (w : World) (mean : ExcName → Option Value) (mg mb : Str → Option Value) (news : List (Addr × Obj)) (y : Int) (t1 : Tok) :
    Clm 2 PySem.Challenge.rw_bd6011_01.row.prog w (hd.heap_39 w.params) hd.view_39 (looseW hd.view_39 [Str.ofString "to_jd_gregorian", Str.ofString "to_jd_islamic"]) mean mg mb 99 news (Yb y) (-6000000 ≤ jan y - 365 * (y - 1) ∧ jan y - 365 * (y - 1) ≤ 8000000) [.int y t1] (fun t => .int (jan y) t) := by
  w_top off
  k_fill
  dsimp only [Clm, Yb, Bd]
  intro dp un gd cn cs a ccd cl outer A₀ base h₀ L mm s Q E B F K N T hk hpre hd hu hret
  refine wpAny_call ?_
  k_dflt cell_enter
  k_steps
  all_goals (refine w_retI hret ?_ (by k_asm) (cb_drop (by with_reducible assumption) (by kcj_all)) (by unfold jan; omega); unfold jan; simp only [fdiv_pos_eq (show (0 : Int) ≤ 400 by decide), fdiv_pos_eq (show (0 : Int) ≤ 4 by decide), fdiv_pos_eq (show (0 : Int) ≤ 100 by decide), fmod_pos_eq (show (0 : Int) ≤ 400 by decide)]; omega)
end
section
local macro_rules | `(tactic| walk_at "binaryOp Add float float") => `(tactic| (k_here; refine' w_add_ff ?k1 ?k2 ?k3 ?_; (case k1 => first | with_reducible exact lit_isl | with_reducible exact lit_gre | with_reducible exact lit_295 | with_reducible exact lit_05 | with_reducible rfl); (case k2 => first | with_reducible exact lit_isl | with_reducible exact lit_gre | with_reducible exact lit_295 | with_reducible exact lit_05 | with_reducible rfl); (case k3 => omega); (try dsimp only)))
local macro_rules | `(tactic| walk_at "binaryOp Sub float float") => `(tactic| (k_here; refine' w_sub_ff ?k1 ?k2 ?k3 ?_; (case k1 => first | with_reducible exact lit_isl | with_reducible exact lit_gre | with_reducible exact lit_295 | with_reducible exact lit_05 | with_reducible rfl); (case k2 => first | with_reducible exact lit_isl | with_reducible exact lit_gre | with_reducible exact lit_295 | with_reducible exact lit_05 | with_reducible rfl); (case k3 => omega); (try dsimp only)))
local macro_rules | `(tactic| walk_at "binaryOp Add float int") => `(tactic| (k_here; refine' w_add_fi ?k1 ?k3 ?_; (case k1 => first | with_reducible exact lit_isl | with_reducible exact lit_gre | with_reducible exact lit_295 | with_reducible exact lit_05 | with_reducible rfl); (case k3 => omega); (try dsimp only)))
local macro_rules | `(tactic| walk_at "binaryOp Add int float") => `(tactic| (k_here; refine' w_add_if ?k1 ?k3 ?_; (case k1 => first | with_reducible exact lit_isl | with_reducible exact lit_gre | with_reducible exact lit_295 | with_reducible exact lit_05 | with_reducible rfl); (case k3 => omega); (try dsimp only)))
local macro_rules | `(tactic| walk_at "binaryOp Sub float int") => `(tactic| (k_here; refine' w_sub_fi ?k1 ?k3 ?_; (case k1 => first | with_reducible exact lit_isl | with_reducible exact lit_gre | with_reducible exact lit_295 | with_reducible exact lit_05 | with_reducible rfl); (case k3 => omega); (try dsimp only)))
local macro_rules | `(tactic| walk_at "binaryOp Sub int float") => `(tactic| (k_here; refine' w_sub_if ?k1 ?k3 ?_; (case k1 => first | with_reducible exact lit_isl | with_reducible exact lit_gre | with_reducible exact lit_295 | with_reducible exact lit_05 | with_reducible rfl); (case k3 => omega); (try dsimp only)))
local macro_rules | `(tactic| walk_at "binaryOp Mult float int") => `(tactic| (k_here; refine' w_mul_fi ?k1 ?k3 ?_; (case k1 => first | with_reducible exact lit_isl | with_reducible exact lit_gre | with_reducible exact lit_295 | with_reducible exact lit_05 | with_reducible rfl); (case k3 => omega); (try dsimp only)))
local macro_rules | `(tactic| walk_at "binaryOp Mult int float") => `(tactic| (k_here; refine' w_mul_if ?k1 ?k3 ?_; (case k1 => first | with_reducible exact lit_isl | with_reducible exact lit_gre | with_reducible exact lit_295 | with_reducible exact lit_05 | with_reducible rfl); (case k3 => omega); (try dsimp only)))
local macro_rules | `(tactic| walk_at "binaryOp Div int int") => `(tactic| (k_here; refine' w_div_ii rfl ?k3 ?_; (case k3 => omega); intro q9 hq9; (try dsimp only)))
local macro_rules | `(tactic| walk_at "binaryOp Div float int") => `(tactic| (k_here; refine' w_div_fi rfl ?k1 ?k3 ?_; (case k1 => first | with_reducible exact lit_isl | with_reducible exact lit_gre | with_reducible exact lit_295 | with_reducible exact lit_05 | with_reducible rfl); (case k3 => omega); intro q9 hq9; (try dsimp only)))
local macro_rules | `(tactic| walk_at "binaryOp Div float float") => `(tactic| (k_here; refine' w_div_ff rfl ?k1 ?k2 ?k3 ?_; (case k1 => first | with_reducible exact lit_isl | with_reducible exact lit_gre | with_reducible exact lit_295 | with_reducible exact lit_05 | with_reducible rfl); (case k2 => first | with_reducible exact lit_isl | with_reducible exact lit_gre | with_reducible exact lit_295 | with_reducible exact lit_05 | with_reducible rfl); (case k3 => omega); intro q9 hq9; (try dsimp only)))
local macro_rules | `(tactic| walk_at "call builtin:math.floor") => `(tactic| (k_here; (with_reducible show wpAny _ _ (call _ [Value.float _ _]) _ _ _); first | (refine' w_floor_q rfl ?k1 ?_; (case k1 => with_reducible assumption)) | (refine' w_floor_h rfl ?k1 ?k3 ?_; (case k1 => first | with_reducible exact lit_isl | with_reducible exact lit_gre | with_reducible exact lit_295 | with_reducible exact lit_05 | with_reducible rfl); (case k3 => omega)); (intro z9 hz9; try dsimp only)))
local macro_rules | `(tactic| walk_at "call builtin:math.ceil") => `(tactic| (k_here; (with_reducible show wpAny _ _ (call _ [Value.float _ _]) _ _ _); first | (refine' w_ceil_q rfl ?k1 ?_; (case k1 => with_reducible assumption)) | (refine' w_ceil_h rfl ?k1 ?k3 ?_; (case k1 => first | with_reducible exact lit_isl | with_reducible exact lit_gre | with_reducible exact lit_295 | with_reducible exact lit_05 | with_reducible rfl); (case k3 => omega)); (intro z9 hz9; try dsimp only)))
local macro_rules | `(tactic| walk_at "call type:int") => `(tactic| (k_here; (with_reducible show wpAny _ _ (call _ [Value.float _ _]) _ _ _); refine' w_int_h rfl ?k1 ?k3 ?_; (case k1 => with_reducible rfl); (case k3 => omega); (intro z9 hz9; try dsimp only)))
local macro_rules | `(tactic| walk_at "compareOp NotEq float int") => `(tactic| (k_here; refine' w_ne_fi ?k1 ?k3 ?_; (case k1 => with_reducible rfl); (case k3 => omega); (try dsimp only)))
local macro_rules | `(tactic| walk_at "compareOp Eq float float") => `(tactic| (k_here; refine' w_eq_ff ?k1 ?k2 ?k3 ?_; (case k1 => with_reducible rfl); (case k2 => with_reducible rfl); (case k3 => omega); (try dsimp only)))
local macro_rules | `(tactic| walk_at "call builtin:min") => `(tactic| (k_here; (with_reducible show wpAny _ _ (call (Value.builtin _) [Value.int _ _, Value.int _ _]) _ _ _); k_dflt (refine' w_min ?k1 ?k2 ?k3 ?_; (case k1 => exact rfl); (case k2 => k_asm); (case k3 => k_asm); k_whole); intro r9 t9 h9 tk9 hr9 F9 N9; (try dsimp only)))
set_option maxRecDepth 100000 in
set_option maxHeartbeats 8000000 in
theorem c_ahead (w : World) (mean : ExcName → Option Value) (mg mb : Str → Option Value) (news : List (Addr × Obj)) (m : Int) (t1 : Tok) :
    Clm 2 PySem.Challenge.rw_bd6011_01.row.prog w (hd.heap_39 w.params) hd.view_39 (looseW hd.view_39 [Str.ofString "to_jd_gregorian", Str.ofString "to_jd_islamic"]) mean mg mb 120 news (1 ≤ m ∧ m ≤ 12) (True) [.int m t1] (fun t => .int (29 * (m - 1) + m / 2) t) := by
  w_top off
  k_fill
  dsimp only [Clm, Yb, Bd]
  intro dp un gd cn cs a ccd cl outer A₀ base h₀ L mm s Q E B F K N T hk hpre hd hu hret
  refine wpAny_call ?_
  k_dflt cell_enter
  k_steps
  all_goals (refine w_retI hret ?_ (by k_asm) (by k_asm) trivial; rw [fdiv_pos_eq (show (0 : Int) ≤ 2 by decide)])
end
section
local macro_rules | `(tactic| walk_at "binaryOp Add float float") => `(tactic| (k_here; refine' w_add_ff ?k1 ?k2 ?k3 ?_; (case k1 => first | with_reducible exact lit_isl | with_reducible exact lit_gre | with_reducible exact lit_295 | with_reducible exact lit_05 | with_reducible rfl); (case k2 => first | with_reducible exact lit_isl | with_reducible exact lit_gre | with_reducible exact lit_295 | with_reducible exact lit_05 | with_reducible rfl); (case k3 => omega); (try dsimp only)))
local macro_rules | `(tactic| walk_at "binaryOp Sub float float") => `(tactic| (k_here; refine' w_sub_ff ?k1 ?k2 ?k3 ?_; (case k1 => first | with_reducible exact lit_isl | with_reducible exact lit_gre | with_reducible exact lit_295 | with_reducible exact lit_05 | with_reducible rfl); (case k2 => first | with_reducible exact lit_isl | with_reducible exact lit_gre | with_reducible exact lit_295 | with_reducible exact lit_05 | with_reducible rfl); (case k3 => omega); (try dsimp only)))
local macro_rules | `(tactic| walk_at "binaryOp Add float int") => `(tactic| (k_here; refine' w_add_fi ?k1 ?k3 ?_; (case k1 => first | with_reducible exact lit_isl | with_reducible exact lit_gre | with_reducible exact lit_295 | with_reducible exact lit_05 | with_reducible rfl); (case k3 => omega); (try dsimp only)))
local macro_rules | `(tactic| walk_at "binaryOp Add int float") => `(tactic| (k_here; refine' w_add_if ?k1 ?k3 ?_; (case k1 => first | with_reducible exact lit_isl | with_reducible exact lit_gre | with_reducible exact lit_295 | with_reducible exact lit_05 | with_reducible rfl); (case k3 => omega); (try dsimp only)))
local macro_rules | `(tactic| walk_at "binaryOp Sub float int") => `(tactic| (k_here; refine' w_sub_fi ?k1 ?k3 ?_; (case k1 => first | with_reducible exact lit_isl | with_reducible exact lit_gre | with_reducible exact lit_295 | with_reducible exact lit_05 | with_reducible rfl); (case k3 => omega); (try dsimp only)))
local macro_rules | `(tactic| walk_at "binaryOp Sub int float") => `(tactic| (k_here; refine' w_sub_if ?k1 ?k3 ?_; (case k1 => first | with_reducible exact lit_isl | with_reducible exact lit_gre | with_reducible exact lit_295 | with_reducible exact lit_05 | with_reducible rfl); (case k3 => omega); (try dsimp only)))
local macro_rules | `(tactic| walk_at "binaryOp Mult float int") => `(tactic| (k_here; refine' w_mul_fi ?k1 ?k3 ?_; (case k1 => first | with_reducible exact lit_isl | with_reducible exact lit_gre | with_reducible exact lit_295 | with_reducible exact lit_05 | with_reducible rfl); (case k3 => omega); (try dsimp only)))
local macro_rules | `(tactic| walk_at "binaryOp Mult int float") => `(tactic| (k_here; refine' w_mul_if ?k1 ?k3 ?_; (case k1 => first | with_reducible exact lit_isl | with_reducible exact lit_gre | with_reducible exact lit_295 | with_reducible exact lit_05 | with_reducible rfl); (case k3 => omega); (try dsimp only)))
local macro_rules | `(tactic| walk_at "binaryOp Div int int") => `(tactic| (k_here; refine' w_div_ii rfl ?k3 ?_; (case k3 => omega); intro q9 hq9; (try dsimp only)))
local macro_rules | `(tactic| walk_at "binaryOp Div float int") => `(tactic| (k_here; refine' w_div_fi rfl ?k1 ?k3 ?_; (case k1 => first | with_reducible exact lit_isl | with_reducible exact lit_gre | with_reducible exact lit_295 | with_reducible exact lit_05 | with_reducible rfl); (case k3 => omega); intro q9 hq9; (try dsimp only)))
local macro_rules | `(tactic| walk_at "binaryOp Div float float") => `(tactic| (k_here; refine' w_div_ff rfl ?k1 ?k2 ?k3 ?_; (case k1 => first | with_reducible exact lit_isl | with_reducible exact lit_gre | with_reducible exact lit_295 | with_reducible exact lit_05 | with_reducible rfl); (case k2 => first | with_reducible exact lit_isl | with_reducible exact lit_gre | with_reducible exact lit_295 | with_reducible exact lit_05 | with_reducible rfl); (case k3 => omega); intro q9 hq9; (try dsimp only)))
local macro_rules | `(tactic| walk_at "call builtin:math.floor") => `(tactic| (k_here; (with_reducible show wpAny _ _ (call _ [Value.float _ _]) _ _ _); first | (refine' w_floor_q rfl ?k1 ?_; (case k1 => with_reducible assumption)) | (refine' w_floor_h rfl ?k1 ?k3 ?_; (case k1 => first | with_reducible exact lit_isl | with_reducible exact lit_gre | with_reducible exact lit_295 | with_reducible exact lit_05 | with_reducible rfl); (case k3 => omega)); (intro z9 hz9; try dsimp only)))
local macro_rules | `(tactic| walk_at "call builtin:math.ceil") => `(tactic| (k_here; (with_reducible show wpAny _ _ (call _ [Value.float _ _]) _ _ _); first | (refine' w_ceil_q rfl ?k1 ?_; (case k1 => with_reducible assumption)) | (refine' w_ceil_h rfl ?k1 ?k3 ?_; (case k1 => first | with_reducible exact lit_isl | with_reducible exact lit_gre | with_reducible exact lit_295 | with_reducible exact lit_05 | with_reducible rfl); (case k3 => omega)); (intro z9 hz9; try dsimp only)))
local macro_rules | `(tactic| walk_at "call type:int") => `(tactic| (k_here; (with_reducible show wpAny _ _ (call _ [Value.float _ _]) _ _ _); refine' w_int_h rfl ?k1 ?k3 ?_; (case k1 => with_reducible rfl); (case k3 => omega); (intro z9 hz9; try dsimp only)))
local macro_rules | `(tactic| walk_at "compareOp NotEq float int") => `(tactic| (k_here; refine' w_ne_fi ?k1 ?k3 ?_; (case k1 => with_reducible rfl); (case k3 => omega); (try dsimp only)))
local macro_rules | `(tactic| walk_at "compareOp Eq float float") => `(tactic| (k_here; refine' w_eq_ff ?k1 ?k2 ?k3 ?_; (case k1 => with_reducible rfl); (case k2 => with_reducible rfl); (case k3 => omega); (try dsimp only)))
local macro_rules | `(tactic| walk_at "call builtin:min") => `(tactic| (k_here; (with_reducible show wpAny _ _ (call (Value.builtin _) [Value.int _ _, Value.int _ _]) _ _ _); k_dflt (refine' w_min ?k1 ?k2 ?k3 ?_; (case k1 => exact rfl); (case k2 => k_asm); (case k3 => k_asm); k_whole); intro r9 t9 h9 tk9 hr9 F9 N9; (try dsimp only)))
local macro_rules | `(tactic| walk_at "compareOp In int ref") => `(tactic| (k_here; k_dflt (refine' w_in_tup ?k1 ?k2 ?k3 ?k4 ?_; (case k1 => k_asm); (case k2 => k_asm); (case k3 => k_is); (case k4 => exact .cons _ _ (.cons _ _ (.cons _ _ (.cons _ _ .nil)))); k_whole); (try dsimp only)))
set_option maxRecDepth 100000 in
set_option maxHeartbeats 8000000 in
theorem c_legal (w : World) (mean : ExcName → Option Value) (mg mb : Str → Option Value) (news : List (Addr × Obj)) (y : Int) (t1 t2 t3 : Tok) :
    Clm 2 PySem.Challenge.rw_bd6011_01.row.prog w (hd.heap_39 w.params) hd.view_39 (looseW hd.view_39 [Str.ofString "to_jd_gregorian", Str.ofString "to_jd_islamic"]) mean mg mb 57 news (True) (True) [.int y t1, .int 1 t2, .int 1 t3] (fun t => .bool true) := by
  w_top off
  k_fill
  dsimp only [Clm, Yb, Bd]
  intro dp un gd cn cs a ccd cl outer A₀ base h₀ L mm s Q E B F K N T hk hpre hd hu hret
  refine wpAny_call ?_
  k_dflt cell_enter
  k_steps
  all_goals exact hret 0 _ _ (by k_asm) (by k_asm) trivial
end
section
local macro_rules | `(tactic| walk_at "binaryOp Add float float") => `(tactic| (k_here; refine' w_add_ff ?k1 ?k2 ?k3 ?_; (case k1 => first | with_reducible exact lit_isl | with_reducible exact lit_gre | with_reducible exact lit_295 | with_reducible exact lit_05 | with_reducible rfl); (case k2 => first | with_reducible exact lit_isl | with_reducible exact lit_gre | with_reducible exact lit_295 | with_reducible exact lit_05 | with_reducible rfl); (case k3 => omega); (try dsimp only)))
local macro_rules | `(tactic| walk_at "binaryOp Sub float float") => `(tactic| (k_here; refine' w_sub_ff ?k1 ?k2 ?k3 ?_; (case k1 => first | with_reducible exact lit_isl | with_reducible exact lit_gre | with_reducible exact lit_295 | with_reducible exact lit_05 | with_reducible rfl); (case k2 => first | with_reducible exact lit_isl | with_reducible exact lit_gre | with_reducible exact lit_295 | with_reducible exact lit_05 | with_reducible rfl); (case k3 => omega); (try dsimp only)))
local macro_rules | `(tactic| walk_at "binaryOp Add float int") => `(tactic| (k_here; refine' w_add_fi ?k1 ?k3 ?_; (case k1 => first | with_reducible exact lit_isl | with_reducible exact lit_gre | with_reducible exact lit_295 | with_reducible exact lit_05 | with_reducible rfl); (case k3 => omega); (try dsimp only)))
local macro_rules | `(tactic| walk_at "binaryOp Add int float") => `(tactic| (k_here; refine' w_add_if ?k1 ?k3 ?_; (case k1 => first | with_reducible exact lit_isl | with_reducible exact lit_gre | with_reducible exact lit_295 | with_reducible exact lit_05 | with_reducible rfl); (case k3 => omega); (try dsimp only)))
local macro_rules | `(tactic| walk_at "binaryOp Sub float int") => `(tactic| (k_here; refine' w_sub_fi ?k1 ?k3 ?_; (case k1 => first | with_reducible exact lit_isl | with_reducible exact lit_gre | with_reducible exact lit_295 | with_reducible exact lit_05 | with_reducible rfl); (case k3 => omega); (try dsimp only)))
local macro_rules | `(tactic| walk_at "binaryOp Sub int float") => `(tactic| (k_here; refine' w_sub_if ?k1 ?k3 ?_; (case k1 => first | with_reducible exact lit_isl | with_reducible exact lit_gre | with_reducible exact lit_295 | with_reducible exact lit_05 | with_reducible rfl); (case k3 => omega); (try dsimp only)))
local macro_rules | `(tactic| walk_at "binaryOp Mult float int") => `(tactic| (k_here; refine' w_mul_fi ?k1 ?k3 ?_; (case k1 => first | with_reducible exact lit_isl | with_reducible exact lit_gre | with_reducible exact lit_295 | with_reducible exact lit_05 | with_reducible rfl); (case k3 => omega); (try dsimp only)))
local macro_rules | `(tactic| walk_at "binaryOp Mult int float") => `(tactic| (k_here; refine' w_mul_if ?k1 ?k3 ?_; (case k1 => first | with_reducible exact lit_isl | with_reducible exact lit_gre | with_reducible exact lit_295 | with_reducible exact lit_05 | with_reducible rfl); (case k3 => omega); (try dsimp only)))
local macro_rules | `(tactic| walk_at "binaryOp Div int int") => `(tactic| (k_here; refine' w_div_ii rfl ?k3 ?_; (case k3 => omega); intro q9 hq9; (try dsimp only)))
local macro_rules | `(tactic| walk_at "binaryOp Div float int") => `(tactic| (k_here; refine' w_div_fi rfl ?k1 ?k3 ?_; (case k1 => first | with_reducible exact lit_isl | with_reducible exact lit_gre | with_reducible exact lit_295 | with_reducible exact lit_05 | with_reducible rfl); (case k3 => omega); intro q9 hq9; (try dsimp only)))
local macro_rules | `(tactic| walk_at "binaryOp Div float float") => `(tactic| (k_here; refine' w_div_ff rfl ?k1 ?k2 ?k3 ?_; (case k1 => first | with_reducible exact lit_isl | with_reducible exact lit_gre | with_reducible exact lit_295 | with_reducible exact lit_05 | with_reducible rfl); (case k2 => first | with_reducible exact lit_isl | with_reducible exact lit_gre | with_reducible exact lit_295 | with_reducible exact lit_05 | with_reducible rfl); (case k3 => omega); intro q9 hq9; (try dsimp only)))
local macro_rules | `(tactic| walk_at "call builtin:math.floor") => `(tactic| (k_here; (with_reducible show wpAny _ _ (call _ [Value.float _ _]) _ _ _); first | (refine' w_floor_q rfl ?k1 ?_; (case k1 => with_reducible assumption)) | (refine' w_floor_h rfl ?k1 ?k3 ?_; (case k1 => first | with_reducible exact lit_isl | with_reducible exact lit_gre | with_reducible exact lit_295 | with_reducible exact lit_05 | with_reducible rfl); (case k3 => omega)); (intro z9 hz9; try dsimp only)))
local macro_rules | `(tactic| walk_at "call builtin:math.ceil") => `(tactic| (k_here; (with_reducible show wpAny _ _ (call _ [Value.float _ _]) _ _ _); first | (refine' w_ceil_q rfl ?k1 ?_; (case k1 => with_reducible assumption)) | (refine' w_ceil_h rfl ?k1 ?k3 ?_; (case k1 => first | with_reducible exact lit_isl | with_reducible exact lit_gre | with_reducible exact lit_295 | with_reducible exact lit_05 | with_reducible rfl); (case k3 => omega)); (intro z9 hz9; try dsimp only)))
local macro_rules | `(tactic| walk_at "call type:int") => `(tactic| (k_here; (with_reducible show wpAny _ _ (call _ [Value.float _ _]) _ _ _); refine' w_int_h rfl ?k1 ?k3 ?_; (case k1 => with_reducible rfl); (case k3 => omega); (intro z9 hz9; try dsimp only)))
local macro_rules | `(tactic| walk_at "compareOp NotEq float int") => `(tactic| (k_here; refine' w_ne_fi ?k1 ?k3 ?_; (case k1 => with_reducible rfl); (case k3 => omega); (try dsimp only)))
local macro_rules | `(tactic| walk_at "compareOp Eq float float") => `(tactic| (k_here; refine' w_eq_ff ?k1 ?k2 ?k3 ?_; (case k1 => with_reducible rfl); (case k2 => with_reducible rfl); (case k3 => omega); (try dsimp only)))
local macro_rules | `(tactic| walk_at "call builtin:min") => `(tactic| (k_here; (with_reducible show wpAny _ _ (call (Value.builtin _) [Value.int _ _, Value.int _ _]) _ _ _); k_dflt (refine' w_min ?k1 ?k2 ?k3 ?_; (case k1 => exact rfl); (case k2 => k_asm); (case k3 => k_asm); k_whole); intro r9 t9 h9 tk9 hr9 F9 N9; (try dsimp only)))
local macro_rules | `(tactic| walk_at "call ref") => `(tactic| (k_here; (with_reducible show wpAny _ _ (call (Value.ref 57) _ _) _ _ _); k_dflt (refine' cb_use (c_legal _ _ _ _ _ _ _ _ _) ?k1 ?k2 ?k3 ?k4 ?k5 ?kK ?kp ?kd ?ku ?_; (case k1 => k_asm); (case k2 => k_asm); (case k3 => k_asm); (case k4 => k_asm); (case k5 => k_asm); (case kK => first | exact rfl | assumption); (case kp => first | (with_reducible exact True.intro) | (dsimp only [Yb, Bd]; omega)); (case kd => ktr_room); (case ku => ktr_units); k_whole); intro t9 h9 tk9 F9 N9 G9; (try dsimp only at G9); (try dsimp only); (try k_fold)))
local macro_rules | `(tactic| walk_at "binaryOp Div int int") => `(tactic| (k_here; refine' w_div_512 rfl ?k1 ?_; (case k1 => omega); (try dsimp only)))
local macro_rules | `(tactic| walk_at "binaryOp Add float int") => `(tactic| (k_here; (first | (with_reducible refine w_add_512a ?_) | (with_reducible refine w_add_512b ?_)); (try dsimp only)))
local macro_rules | `(tactic| walk_at "call builtin:math.floor") => `(tactic| (k_here; refine' w_floor_512 rfl ?_; (try dsimp only)))
set_option maxRecDepth 100000 in
set_option maxHeartbeats 8000000 in
theorem c_greg (w : World) (mean : ExcName → Option Value) (mg mb : Str → Option Value) (news : List (Addr × Obj)) (y : Int) (t1 t2 t3 : Tok) :
    Clm 4 PySem.Challenge.rw_bd6011_01.row.prog w (hd.heap_39 w.params) hd.view_39 (looseW hd.view_39 [Str.ofString "to_jd_gregorian", Str.ofString "to_jd_islamic"]) mean mg mb 64 news (Yb y) (-6000000 ≤ jan y - 365 * (y - 1) ∧ jan y - 365 * (y - 1) ≤ 8000000) [.int y t1, .int 1 t2, .int 1 t3] (fun t => .float (hf (2 * jan y - 1)) t) := by
  w_top off
  k_fill
  dsimp only [Clm, Yb, Bd]
  intro dp un gd cn cs a ccd cl outer A₀ base h₀ L mm s Q E B F K N T hk hpre hd hu hret
  refine wpAny_call ?_
  k_dflt cell_enter
  k_steps
  all_goals (refine w_retF hret ?_ (by k_asm) (by k_asm) (by unfold jan; omega); congr 1; unfold jan; omega)
end
/-! 5. What from_jd finds; the plain law of the two calendars; from_jd and to_jd_gregorianyear as contracts. -/
/-- what from_jd finds at the half before the int n -/
def yr (n : Int) : Int := (30 * (n - 1948440) + 10646) / 10631
def mo (n : Int) : Int := min 12 (-((-(2 * (n - jdn (yr n) 1 1) - 58)) / 59) + 1)
def dy (n : Int) : Int := n - jdn (yr n) (mo n) 1 + 1
abbrev tup3 (a b c : Int) (t u v : Tok) : Obj := { cls := .type "tuple", data := .seq #[.int a t, .int b u, .int c v] }
theorem w_ret3 {h₀ h' : Heap} {L : Addr} {mm : Str → Option Value} {news : List (Addr × Obj)} {s : Shared} {Q : Value → Shared → Prop} {t u v : Tok} {tk' : Nat} {r : Addr} {n y m d : Int}
    (hret : ∀ (r : Addr) (t u v : Tok) (h' : Heap) (tk' : Nat), Fr h₀ L h' mm → News h₀ L h' ((r, tup3 (yr n) (mo n) (dy n) t u v) :: news) → (∀ p ∈ news, p.1 < r) → Q (.ref r) { s with heap := h', toks := tk' })
    (e1 : y = yr n) (e2 : jdn y 1 1 = jdn (yr n) 1 1 → m = mo n) (e3 : jdn y m 1 = jdn (yr n) (mo n) 1 → d = dy n) (F : Fr h₀ L h' mm) (N : News h₀ L h' ((r, tup3 y m d t u v) :: news)) (l : ∀ p ∈ news, p.1 < r) : Q (.ref r) { s with heap := h', toks := tk' } := by
  have e2 := e2 (by rw [e1])
  have e3 := e3 (by rw [e1, e2])
  rw [e1, e2, e3] at N
  exact hret r t u v h' tk' F N l
abbrev ClmT (k : Nat) (prog : Program) (w : World) (K : Frag) (p : Program) (loose : List Str) (mean : ExcName → Option Value) (mg mb : Str → Option Value) (f : Addr) (news : List (Addr × Obj)) (pre G : Prop) (vs : List Value) (x y z : Int) : Prop :=
  ∀ (dp un : Nat) (gd : Option (List Code)) (cn : Str) (cs : Scope) (a : Addr) (ccd : Value) (cl : List (Str × Addr)) (outer : List Env) (A₀ : Around) (base h₀ : Heap) (L : Addr) (m : Str → Option Value) (s : Shared) (Q E : Value → Shared → Prop),
    Below A₀ base outer h₀ → Fr h₀ L s.heap m → K.In h₀ → News h₀ L s.heap news → Top p loose mean mg mb h₀ → cs.kind = .function → pre → dp + k < recursionLimit → un + 4 * k + 8 < cLine →
      (∀ (r : Addr) (t u v : Tok) (h' : Heap) (tk' : Nat), Fr h₀ L h' m → News h₀ L h' ((r, tup3 x y z t u v) :: news) → (∀ p ∈ news, p.1 < r) → Q (.ref r) { s with heap := h', toks := tk' }) →
      wpAny (model prog w) (ktrTop dp un gd cn cs L a ccd cl outer) (call (.ref f) vs) Q E s
theorem cbT_use {k : Nat} {prog : Program} {w : World} {K : Frag} {p : Program} {loose : List Str} {mean : ExcName → Option Value} {mg mb : Str → Option Value} {f : Addr} {news : List (Addr × Obj)} {pre G : Prop} {vs : List Value} {x y z : Int}
    (C : ClmT k prog w K p loose mean mg mb f news pre G vs x y z) {dp un : Nat} {gd : Option (List Code)} {cn : Str} {cs : Scope} {a : Addr} {ccd : Value} {cl : List (Str × Addr)} {outer : List Env} {A₀ : Around} {base h₀ : Heap} {L : Addr} {m : Str → Option Value} {s : Shared} {Q E : Value → Shared → Prop}
    (B : Below A₀ base outer h₀) (F : Fr h₀ L s.heap m) (X : K.In h₀) (N : News h₀ L s.heap news) (T : Top p loose mean mg mb h₀) (hk : cs.kind = .function) (hp : pre) (hg : G) (hd : dp + k < recursionLimit) (hu : un + 4 * k + 8 < cLine)
    (ret : ∀ (r : Addr) (t u v : Tok) (h' : Heap) (tk' : Nat), Fr h₀ L h' m → News h₀ L h' ((r, tup3 x y z t u v) :: news) → (∀ p ∈ news, p.1 < r) → G → Q (.ref r) { s with heap := h', toks := tk' }) :
    wpAny (model prog w) (ktrTop dp un gd cn cs L a ccd cl outer) (call (.ref f) vs) Q E s := C _ _ _ _ _ _ _ _ _ _ _ _ _ _ _ _ _ B F X N T hk hp hd hu fun r t u v h' tk' F' N' l' => ret r t u v h' tk' F' N' l' hg
theorem jdn_first (y : Int) : jdn y 1 1 = first y := by unfold jdn first; omega
theorem jdn_eq (y m d : Int) : jdn y m d = first y + (29 * (m - 1) + m / 2) + d - 1 := by unfold jdn first; omega
theorem yr_spec (n : Int) : first (yr n) ≤ n ∧ n < first (yr n + 1) := by unfold first yr; omega
theorem first_len (y : Int) : first y + 354 ≤ first (y + 1) ∧ first (y + 1) ≤ first y + 355 := by unfold first; omega
theorem yr_of {n y : Int} (h1 : first y ≤ n) (h2 : n < first (y + 1)) : yr n = y := by unfold first at h1 h2; unfold yr; omega
theorem yr_bd {n : Int} (h : -3000000000 ≤ n ∧ n ≤ 3000000000) : -9000000 ≤ yr n ∧ yr n ≤ 9000000 := by unfold yr; omega
theorem mo_bd (n : Int) : 1 ≤ mo n ∧ mo n ≤ 12 := by
  have h := yr_spec n
  unfold mo
  rw [jdn_first]
  generalize first (yr n) = f at *
  omega
theorem fj_bd {n : Int} (h : -3000000000 ≤ n ∧ n ≤ 3000000000) : -9000000 ≤ yr n ∧ yr n ≤ 9000000 ∧ 1 ≤ mo n ∧ mo n ≤ 12 := ⟨(yr_bd h).1, (yr_bd h).2, mo_bd n⟩
/-- from_jd reads back what to_jd told -/
theorem back {y m d : Int} (hm : 1 ≤ m) (hm2 : m ≤ 12) (hd : 1 ≤ d) (hd2 : d ≤ 29) : yr (jdn y m d) = y ∧ mo (jdn y m d) = m ∧ dy (jdn y m d) = d := by
  have hl := first_len y
  have hy : yr (jdn y m d) = y := yr_of (by rw [jdn_eq]; omega) (by rw [jdn_eq]; omega)
  have hmo : mo (jdn y m d) = m := by
    unfold mo
    rw [hy, jdn_first, jdn_eq]
    generalize first y = f
    omega
  refine ⟨hy, hmo, ?_⟩
  unfold dy
  rw [hy, hmo, jdn_eq, jdn_eq]
  omega
/-- the month by the law's own walk through the year -/
theorem mo_of {n m : Int} (hm : 1 ≤ m) (hm2 : m ≤ 12) (h1 : 29 * (m - 1) + m / 2 ≤ n - first (yr n)) (h2 : m = 12 ∨ n - first (yr n) < 29 * m + (m + 1) / 2) : mo n = m := by
  have h := yr_spec n
  have hl := first_len (yr n)
  unfold mo
  rw [jdn_first]
  generalize first (yr n) = f at *
  omega
theorem jan_bd {g : Int} (h : -4998000 ≤ g ∧ g ≤ 5002000) : -1900000000 ≤ jan g ∧ jan g ≤ 1900000000 := by unfold jan; omega
/-- the Islamic year that bears month m in the Gregorian year g -/
def brg (g m : Int) : Int := if m < mo (jan g) then yr (jan g) + 1 else yr (jan g)
theorem brg_bd {g m d : Int} (h : -4998000 ≤ g ∧ g ≤ 5002000 ∧ 1 ≤ m ∧ m ≤ 12 ∧ 1 ≤ d ∧ d ≤ 29) : -2000000000 ≤ jdn (brg g m) m d ∧ jdn (brg g m) m d ≤ 2000000000 := by
  have hj := jan_bd (g := g) (by omega)
  have hs := yr_spec (jan g)
  have hl := first_len (yr (jan g))
  rw [jdn_eq]
  unfold brg
  generalize jan g = n at *
  generalize yr n = y at *
  split
  · generalize first (y + 1) = f at *
    generalize first y = f0 at *
    omega
  · generalize first (y + 1) = f at *
    generalize first y = f0 at *
    omega
section
local macro_rules | `(tactic| walk_at "binaryOp Add float float") => `(tactic| (k_here; refine' w_add_ff ?k1 ?k2 ?k3 ?_; (case k1 => first | with_reducible exact lit_isl | with_reducible exact lit_gre | with_reducible exact lit_295 | with_reducible exact lit_05 | with_reducible rfl); (case k2 => first | with_reducible exact lit_isl | with_reducible exact lit_gre | with_reducible exact lit_295 | with_reducible exact lit_05 | with_reducible rfl); (case k3 => omega); (try dsimp only)))
local macro_rules | `(tactic| walk_at "binaryOp Sub float float") => `(tactic| (k_here; refine' w_sub_ff ?k1 ?k2 ?k3 ?_; (case k1 => first | with_reducible exact lit_isl | with_reducible exact lit_gre | with_reducible exact lit_295 | with_reducible exact lit_05 | with_reducible rfl); (case k2 => first | with_reducible exact lit_isl | with_reducible exact lit_gre | with_reducible exact lit_295 | with_reducible exact lit_05 | with_reducible rfl); (case k3 => omega); (try dsimp only)))
local macro_rules | `(tactic| walk_at "binaryOp Add float int") => `(tactic| (k_here; refine' w_add_fi ?k1 ?k3 ?_; (case k1 => first | with_reducible exact lit_isl | with_reducible exact lit_gre | with_reducible exact lit_295 | with_reducible exact lit_05 | with_reducible rfl); (case k3 => omega); (try dsimp only)))
local macro_rules | `(tactic| walk_at "binaryOp Add int float") => `(tactic| (k_here; refine' w_add_if ?k1 ?k3 ?_; (case k1 => first | with_reducible exact lit_isl | with_reducible exact lit_gre | with_reducible exact lit_295 | with_reducible exact lit_05 | with_reducible rfl); (case k3 => omega); (try dsimp only)))
local macro_rules | `(tactic| walk_at "binaryOp Sub float int") => `(tactic| (k_here; refine' w_sub_fi ?k1 ?k3 ?_; (case k1 => first | with_reducible exact lit_isl | with_reducible exact lit_gre | with_reducible exact lit_295 | with_reducible exact lit_05 | with_reducible rfl); (case k3 => omega); (try dsimp only)))
local macro_rules | `(tactic| walk_at "binaryOp Sub int float") => `(tactic| (k_here; refine' w_sub_if ?k1 ?k3 ?_; (case k1 => first | with_reducible exact lit_isl | with_reducible exact lit_gre | with_reducible exact lit_295 | with_reducible exact lit_05 | with_reducible rfl); (case k3 => omega); (try dsimp only)))
local macro_rules | `(tactic| walk_at "binaryOp Mult float int") => `(tactic| (k_here; refine' w_mul_fi ?k1 ?k3 ?_; (case k1 => first | with_reducible exact lit_isl | with_reducible exact lit_gre | with_reducible exact lit_295 | with_reducible exact lit_05 | with_reducible rfl); (case k3 => omega); (try dsimp only)))
local macro_rules | `(tactic| walk_at "binaryOp Mult int float") => `(tactic| (k_here; refine' w_mul_if ?k1 ?k3 ?_; (case k1 => first | with_reducible exact lit_isl | with_reducible exact lit_gre | with_reducible exact lit_295 | with_reducible exact lit_05 | with_reducible rfl); (case k3 => omega); (try dsimp only)))
local macro_rules | `(tactic| walk_at "binaryOp Div int int") => `(tactic| (k_here; refine' w_div_ii rfl ?k3 ?_; (case k3 => omega); intro q9 hq9; (try dsimp only)))
local macro_rules | `(tactic| walk_at "binaryOp Div float int") => `(tactic| (k_here; refine' w_div_fi rfl ?k1 ?k3 ?_; (case k1 => first | with_reducible exact lit_isl | with_reducible exact lit_gre | with_reducible exact lit_295 | with_reducible exact lit_05 | with_reducible rfl); (case k3 => omega); intro q9 hq9; (try dsimp only)))
local macro_rules | `(tactic| walk_at "binaryOp Div float float") => `(tactic| (k_here; refine' w_div_ff rfl ?k1 ?k2 ?k3 ?_; (case k1 => first | with_reducible exact lit_isl | with_reducible exact lit_gre | with_reducible exact lit_295 | with_reducible exact lit_05 | with_reducible rfl); (case k2 => first | with_reducible exact lit_isl | with_reducible exact lit_gre | with_reducible exact lit_295 | with_reducible exact lit_05 | with_reducible rfl); (case k3 => omega); intro q9 hq9; (try dsimp only)))
local macro_rules | `(tactic| walk_at "call builtin:math.floor") => `(tactic| (k_here; (with_reducible show wpAny _ _ (call _ [Value.float _ _]) _ _ _); first | (refine' w_floor_q rfl ?k1 ?_; (case k1 => with_reducible assumption)) | (refine' w_floor_h rfl ?k1 ?k3 ?_; (case k1 => first | with_reducible exact lit_isl | with_reducible exact lit_gre | with_reducible exact lit_295 | with_reducible exact lit_05 | with_reducible rfl); (case k3 => omega)); (intro z9 hz9; try dsimp only)))
local macro_rules | `(tactic| walk_at "call builtin:math.ceil") => `(tactic| (k_here; (with_reducible show wpAny _ _ (call _ [Value.float _ _]) _ _ _); first | (refine' w_ceil_q rfl ?k1 ?_; (case k1 => with_reducible assumption)) | (refine' w_ceil_h rfl ?k1 ?k3 ?_; (case k1 => first | with_reducible exact lit_isl | with_reducible exact lit_gre | with_reducible exact lit_295 | with_reducible exact lit_05 | with_reducible rfl); (case k3 => omega)); (intro z9 hz9; try dsimp only)))
local macro_rules | `(tactic| walk_at "call type:int") => `(tactic| (k_here; (with_reducible show wpAny _ _ (call _ [Value.float _ _]) _ _ _); refine' w_int_h rfl ?k1 ?k3 ?_; (case k1 => with_reducible rfl); (case k3 => omega); (intro z9 hz9; try dsimp only)))
local macro_rules | `(tactic| walk_at "compareOp NotEq float int") => `(tactic| (k_here; refine' w_ne_fi ?k1 ?k3 ?_; (case k1 => with_reducible rfl); (case k3 => omega); (try dsimp only)))
local macro_rules | `(tactic| walk_at "compareOp Eq float float") => `(tactic| (k_here; refine' w_eq_ff ?k1 ?k2 ?k3 ?_; (case k1 => with_reducible rfl); (case k2 => with_reducible rfl); (case k3 => omega); (try dsimp only)))
local macro_rules | `(tactic| walk_at "call builtin:min") => `(tactic| (k_here; (with_reducible show wpAny _ _ (call (Value.builtin _) [Value.int _ _, Value.int _ _]) _ _ _); k_dflt (refine' w_min ?k1 ?k2 ?k3 ?_; (case k1 => exact rfl); (case k2 => k_asm); (case k3 => k_asm); k_whole); intro r9 t9 h9 tk9 hr9 F9 N9; (try dsimp only)))
local macro_rules | `(tactic| walk_at "call ref") => `(tactic| (k_here; (with_reducible show wpAny _ _ (call (Value.ref 71) _ _) _ _ _); k_dflt (refine' cb_use (c_jdi _ _ _ _ _ _ _ _ _ _ _) ?k1 ?k2 ?k3 ?k4 ?k5 ?kK ?kp ?kd ?ku ?_; (case k1 => k_asm); (case k2 => k_asm); (case k3 => k_asm); (case k4 => k_asm); (case k5 => k_asm); (case kK => first | exact rfl | assumption); (case kp => first | (with_reducible exact True.intro) | (dsimp only [Yb, Bd]; omega)); (case kd => ktr_room); (case ku => ktr_units); k_whole); intro t9 h9 tk9 F9 N9 G9; (try dsimp only at G9); (try dsimp only); (try k_fold)))
set_option maxRecDepth 100000 in
set_option maxHeartbeats 8000000 in
theorem c_fj (w : World) (mean : ExcName → Option Value) (mg mb : Str → Option Value) (news : List (Addr × Obj)) (n : Int) (t1 : Tok) :
    ClmT 4 PySem.Challenge.rw_bd6011_01.row.prog w (hd.heap_39 w.params) hd.view_39 (looseW hd.view_39 [Str.ofString "to_jd_gregorian", Str.ofString "to_jd_islamic"]) mean mg mb 78 news (-3000000000 ≤ n ∧ n ≤ 3000000000) (-9000000 ≤ yr n ∧ yr n ≤ 9000000 ∧ 1 ≤ mo n ∧ mo n ≤ 12) [.float (hf (2 * n - 1)) t1] (yr n) (mo n) (dy n) := by
  w_top off
  k_fill
  dsimp only [ClmT, Yb, Bd]
  intro dp un gd cn cs a ccd cl outer A₀ base h₀ L mm s Q E B F K N T hk hpre hd hu hret
  refine wpAny_call ?_
  k_dflt cell_enter
  k_steps
  refine w_ret3 hret ?_ ?_ ?_ (by k_asm) (by k_asm) (by assumption)
  · unfold yr; omega
  · intro h; unfold mo; omega
  · intro h; unfold dy; omega
end
section
local macro_rules | `(tactic| walk_at "binaryOp Add float float") => `(tactic| (k_here; refine' w_add_ff ?k1 ?k2 ?k3 ?_; (case k1 => first | with_reducible exact lit_isl | with_reducible exact lit_gre | with_reducible exact lit_295 | with_reducible exact lit_05 | with_reducible rfl); (case k2 => first | with_reducible exact lit_isl | with_reducible exact lit_gre | with_reducible exact lit_295 | with_reducible exact lit_05 | with_reducible rfl); (case k3 => omega); (try dsimp only)))
local macro_rules | `(tactic| walk_at "binaryOp Sub float float") => `(tactic| (k_here; refine' w_sub_ff ?k1 ?k2 ?k3 ?_; (case k1 => first | with_reducible exact lit_isl | with_reducible exact lit_gre | with_reducible exact lit_295 | with_reducible exact lit_05 | with_reducible rfl); (case k2 => first | with_reducible exact lit_isl | with_reducible exact lit_gre | with_reducible exact lit_295 | with_reducible exact lit_05 | with_reducible rfl); (case k3 => omega); (try dsimp only)))
local macro_rules | `(tactic| walk_at "binaryOp Add float int") => `(tactic| (k_here; refine' w_add_fi ?k1 ?k3 ?_; (case k1 => first | with_reducible exact lit_isl | with_reducible exact lit_gre | with_reducible exact lit_295 | with_reducible exact lit_05 | with_reducible rfl); (case k3 => omega); (try dsimp only)))
local macro_rules | `(tactic| walk_at "binaryOp Add int float") => `(tactic| (k_here; refine' w_add_if ?k1 ?k3 ?_; (case k1 => first | with_reducible exact lit_isl | with_reducible exact lit_gre | with_reducible exact lit_295 | with_reducible exact lit_05 | with_reducible rfl); (case k3 => omega); (try dsimp only)))
local macro_rules | `(tactic| walk_at "binaryOp Sub float int") => `(tactic| (k_here; refine' w_sub_fi ?k1 ?k3 ?_; (case k1 => first | with_reducible exact lit_isl | with_reducible exact lit_gre | with_reducible exact lit_295 | with_reducible exact lit_05 | with_reducible rfl); (case k3 => omega); (try dsimp only)))
local macro_rules | `(tactic| walk_at "binaryOp Sub int float") => `(tactic| (k_here; refine' w_sub_if ?k1 ?k3 ?_; (case k1 => first | with_reducible exact lit_isl | with_reducible exact lit_gre | with_reducible exact lit_295 | with_reducible exact lit_05 | with_reducible rfl); (case k3 => omega); (try dsimp only)))
local macro_rules | `(tactic| walk_at "binaryOp Mult float int") => `(tactic| (k_here; refine' w_mul_fi ?k1 ?k3 ?_; (case k1 => first | with_reducible exact lit_isl | with_reducible exact lit_gre | with_reducible exact lit_295 | with_reducible exact lit_05 | with_reducible rfl); (case k3 => omega); (try dsimp only)))
local macro_rules | `(tactic| walk_at "binaryOp Mult int float") => `(tactic| (k_here; refine' w_mul_if ?k1 ?k3 ?_; (case k1 => first | with_reducible exact lit_isl | with_reducible exact lit_gre | with_reducible exact lit_295 | with_reducible exact lit_05 | with_reducible rfl); (case k3 => omega); (try dsimp only)))
local macro_rules | `(tactic| walk_at "binaryOp Div int int") => `(tactic| (k_here; refine' w_div_ii rfl ?k3 ?_; (case k3 => omega); intro q9 hq9; (try dsimp only)))
local macro_rules | `(tactic| walk_at "binaryOp Div float int") => `(tactic| (k_here; refine' w_div_fi rfl ?k1 ?k3 ?_; (case k1 => first | with_reducible exact lit_isl | with_reducible exact lit_gre | with_reducible exact lit_295 | with_reducible exact lit_05 | with_reducible rfl); (case k3 => omega); intro q9 hq9; (try dsimp only)))
local macro_rules | `(tactic| walk_at "binaryOp Div float float") => `(tactic| (k_here; refine' w_div_ff rfl ?k1 ?k2 ?k3 ?_; (case k1 => first | with_reducible exact lit_isl | with_reducible exact lit_gre | with_reducible exact lit_295 | with_reducible exact lit_05 | with_reducible rfl); (case k2 => first | with_reducible exact lit_isl | with_reducible exact lit_gre | with_reducible exact lit_295 | with_reducible exact lit_05 | with_reducible rfl); (case k3 => omega); intro q9 hq9; (try dsimp only)))
local macro_rules | `(tactic| walk_at "call builtin:math.floor") => `(tactic| (k_here; (with_reducible show wpAny _ _ (call _ [Value.float _ _]) _ _ _); first | (refine' w_floor_q rfl ?k1 ?_; (case k1 => with_reducible assumption)) | (refine' w_floor_h rfl ?k1 ?k3 ?_; (case k1 => first | with_reducible exact lit_isl | with_reducible exact lit_gre | with_reducible exact lit_295 | with_reducible exact lit_05 | with_reducible rfl); (case k3 => omega)); (intro z9 hz9; try dsimp only)))
local macro_rules | `(tactic| walk_at "call builtin:math.ceil") => `(tactic| (k_here; (with_reducible show wpAny _ _ (call _ [Value.float _ _]) _ _ _); first | (refine' w_ceil_q rfl ?k1 ?_; (case k1 => with_reducible assumption)) | (refine' w_ceil_h rfl ?k1 ?k3 ?_; (case k1 => first | with_reducible exact lit_isl | with_reducible exact lit_gre | with_reducible exact lit_295 | with_reducible exact lit_05 | with_reducible rfl); (case k3 => omega)); (intro z9 hz9; try dsimp only)))
local macro_rules | `(tactic| walk_at "call type:int") => `(tactic| (k_here; (with_reducible show wpAny _ _ (call _ [Value.float _ _]) _ _ _); refine' w_int_h rfl ?k1 ?k3 ?_; (case k1 => with_reducible rfl); (case k3 => omega); (intro z9 hz9; try dsimp only)))
local macro_rules | `(tactic| walk_at "compareOp NotEq float int") => `(tactic| (k_here; refine' w_ne_fi ?k1 ?k3 ?_; (case k1 => with_reducible rfl); (case k3 => omega); (try dsimp only)))
local macro_rules | `(tactic| walk_at "compareOp Eq float float") => `(tactic| (k_here; refine' w_eq_ff ?k1 ?k2 ?k3 ?_; (case k1 => with_reducible rfl); (case k2 => with_reducible rfl); (case k3 => omega); (try dsimp only)))
local macro_rules | `(tactic| walk_at "call builtin:min") => `(tactic| (k_here; (with_reducible show wpAny _ _ (call (Value.builtin _) [Value.int _ _, Value.int _ _]) _ _ _); k_dflt (refine' w_min ?k1 ?k2 ?k3 ?_; (case k1 => exact rfl); (case k2 => k_asm); (case k3 => k_asm); k_whole); intro r9 t9 h9 tk9 hr9 F9 N9; (try dsimp only)))
local macro_rules | `(tactic| walk_at "call ref") => `(tactic| (k_here; (with_reducible show wpAny _ _ (call (Value.ref 71) _ _) _ _ _); k_dflt (refine' cb_use (c_jdi _ _ _ _ _ _ _ _ _ _ _) ?k1 ?k2 ?k3 ?k4 ?k5 ?kK ?kp ?kd ?ku ?_; (case k1 => k_asm); (case k2 => k_asm); (case k3 => k_asm); (case k4 => k_asm); (case k5 => k_asm); (case kK => first | exact rfl | assumption); (case kp => first | (with_reducible exact True.intro) | (dsimp only [Yb, Bd]; omega)); (case kd => ktr_room); (case ku => ktr_units); k_whole); intro t9 h9 tk9 F9 N9 G9; (try dsimp only at G9); (try dsimp only); (try k_fold)))
local macro_rules | `(tactic| walk_at "call ref") => `(tactic| (k_here; (with_reducible show wpAny _ _ (call (Value.ref 64) _ _) _ _ _); k_dflt (refine' cb_use (c_greg _ _ _ _ _ _ _ _ _) ?k1 ?k2 ?k3 ?k4 ?k5 ?kK ?kp ?kd ?ku ?_; (case k1 => k_asm); (case k2 => k_asm); (case k3 => k_asm); (case k4 => k_asm); (case k5 => k_asm); (case kK => first | exact rfl | assumption); (case kp => first | (with_reducible exact True.intro) | (dsimp only [Yb, Bd]; omega)); (case kd => ktr_room); (case ku => ktr_units); k_whole); intro t9 h9 tk9 F9 N9 G9; (try dsimp only at G9); (try dsimp only); (try k_fold)))
local macro_rules | `(tactic| walk_at "call ref") => `(tactic| (k_here; (with_reducible show wpAny _ _ (call (Value.ref 78) _ _) _ _ _); k_dflt (refine' cbT_use (c_fj _ _ _ _ _ _ _) ?k1 ?k2 ?k3 ?k4 ?k5 ?kK ?kp ?kg ?kd ?ku ?_; (case k1 => k_asm); (case k2 => k_asm); (case k3 => k_asm); (case k4 => k_asm); (case k5 => k_asm); (case kK => first | exact rfl | assumption); (case kp => omega); (case kg => (exact fj_bd (by omega))); (case kd => ktr_room); (case ku => ktr_units); k_whole); intro r9 t91 t92 t93 h9 tk9 F9 N9 l9 G9; (try dsimp only at G9); (try dsimp only); (try k_fold)))
set_option maxRecDepth 100000 in
set_option maxHeartbeats 8000000 in
theorem c_gy (w : World) (mean : ExcName → Option Value) (mg mb : Str → Option Value) (news : List (Addr × Obj)) (g m d : Int) (t1 t2 t3 : Tok) :
    Clm 6 PySem.Challenge.rw_bd6011_01.row.prog w (hd.heap_39 w.params) hd.view_39 (looseW hd.view_39 [Str.ofString "to_jd_gregorian", Str.ofString "to_jd_islamic"]) mean mg mb 85 news (-4998000 ≤ g ∧ g ≤ 5002000 ∧ 1 ≤ m ∧ m ≤ 12 ∧ 1 ≤ d ∧ d ≤ 29) (-2000000000 ≤ jdn (brg g m) m d ∧ jdn (brg g m) m d ≤ 2000000000) [.int g t1, .int m t2, .int d t3] (fun t => .float (hf (2 * jdn (brg g m) m d - 1)) t) := by
  w_top off
  k_fill
  dsimp only [Clm, Yb, Bd]
  intro dp un gd cn cs a ccd cl outer A₀ base h₀ L mm s Q E B F K N T hk hpre hd hu hret
  refine wpAny_call ?_
  k_dflt cell_enter
  k_steps
  all_goals (refine w_retF hret ?_ (by k_asm) (cb_drop (by with_reducible assumption) (by kcj_all)) (brg_bd hpre); unfold brg)
  · rw [if_pos (by with_reducible assumption)]
  · rw [if_neg (by with_reducible assumption)]
end
/-! 6. The searches of _law_place: by an invariant and a measure; its contract. -/
abbrev tup2 (a b : Int) (t u : Tok) : Obj := { cls := .type "tuple", data := .seq #[.int a t, .int b u] }
theorem w_ret2 {h₀ h' : Heap} {L : Addr} {mm : Str → Option Value} {news : List (Addr × Obj)} {s : Shared} {Q : Value → Shared → Prop} {t u : Tok} {tk' : Nat} {r : Addr} {y m y' m' : Int}
    (hret : ∀ (r : Addr) (t u : Tok) (h' : Heap) (tk' : Nat), Fr h₀ L h' mm → News h₀ L h' ((r, tup2 y m t u) :: news) → (∀ p ∈ news, p.1 < r) → Q (.ref r) { s with heap := h', toks := tk' })
    (e1 : y' = y) (e2 : m' = m) (F : Fr h₀ L h' mm) (N : News h₀ L h' ((r, tup2 y' m' t u) :: news)) (l : ∀ p ∈ news, p.1 < r) : Q (.ref r) { s with heap := h', toks := tk' } := by
  subst e1 e2
  exact hret r t u h' tk' F N l
abbrev ClmP (k : Nat) (prog : Program) (w : World) (K : Frag) (p : Program) (loose : List Str) (mean : ExcName → Option Value) (mg mb : Str → Option Value) (f : Addr) (news : List (Addr × Obj)) (pre G : Prop) (vs : List Value) (x y : Int) : Prop :=
  ∀ (dp un : Nat) (gd : Option (List Code)) (cn : Str) (cs : Scope) (a : Addr) (ccd : Value) (cl : List (Str × Addr)) (outer : List Env) (A₀ : Around) (base h₀ : Heap) (L : Addr) (m : Str → Option Value) (s : Shared) (Q E : Value → Shared → Prop),
    Below A₀ base outer h₀ → Fr h₀ L s.heap m → K.In h₀ → News h₀ L s.heap news → Top p loose mean mg mb h₀ → cs.kind = .function → pre → dp + k < recursionLimit → un + 4 * k + 8 < cLine →
      (∀ (r : Addr) (t u : Tok) (h' : Heap) (tk' : Nat), Fr h₀ L h' m → News h₀ L h' ((r, tup2 x y t u) :: news) → (∀ p ∈ news, p.1 < r) → Q (.ref r) { s with heap := h', toks := tk' }) →
      wpAny (model prog w) (ktrTop dp un gd cn cs L a ccd cl outer) (call (.ref f) vs) Q E s
theorem cbP_use {k : Nat} {prog : Program} {w : World} {K : Frag} {p : Program} {loose : List Str} {mean : ExcName → Option Value} {mg mb : Str → Option Value} {f : Addr} {news : List (Addr × Obj)} {pre G : Prop} {vs : List Value} {x y : Int}
    (C : ClmP k prog w K p loose mean mg mb f news pre G vs x y) {dp un : Nat} {gd : Option (List Code)} {cn : Str} {cs : Scope} {a : Addr} {ccd : Value} {cl : List (Str × Addr)} {outer : List Env} {A₀ : Around} {base h₀ : Heap} {L : Addr} {m : Str → Option Value} {s : Shared} {Q E : Value → Shared → Prop}
    (B : Below A₀ base outer h₀) (F : Fr h₀ L s.heap m) (X : K.In h₀) (N : News h₀ L s.heap news) (T : Top p loose mean mg mb h₀) (hk : cs.kind = .function) (hp : pre) (hg : G) (hd : dp + k < recursionLimit) (hu : un + 4 * k + 8 < cLine)
    (ret : ∀ (r : Addr) (t u : Tok) (h' : Heap) (tk' : Nat), Fr h₀ L h' m → News h₀ L h' ((r, tup2 x y t u) :: news) → (∀ p ∈ news, p.1 < r) → G → Q (.ref r) { s with heap := h', toks := tk' }) :
    wpAny (model prog w) (ktrTop dp un gd cn cs L a ccd cl outer) (call (.ref f) vs) Q E s := C _ _ _ _ _ _ _ _ _ _ _ _ _ _ _ _ _ B F X N T hk hp hd hu fun r t u h' tk' F' N' l' => ret r t u h' tk' F' N' l' hg
/-- what holds of the year between the turns of the law's two searches -/
def Py (n y : Int) : Prop := first y ≤ n ∧ -9000000 ≤ y ∧ y ≤ 9000000 ∧ n ≤ 3000000000
theorem py_start {n : Int} (h : -3000000000 ≤ n ∧ n ≤ 3000000000) : Py n (1 + Int.fdiv ((n - 1948440) * 30) 10631) := by
  rw [fdiv_pos_eq (show (0 : Int) ≤ 10631 by decide)]
  unfold Py first
  omega
theorem py_step {n y : Int} (h : Py n y) (h2 : first (y + 1) ≤ n) : Py n (y + 1) := by
  obtain ⟨h1, h3, h4, h5⟩ := h
  refine ⟨h2, by omega, ?_, h5⟩
  unfold first at *
  omega
theorem py_measure {n y : Int} (h : Py n y) (h2 : first (y + 1) ≤ n) : (n - first (y + 1)).toNat < (n - first y).toNat := by
  have := first_len y
  unfold Py at h
  omega
theorem py_yb {n y : Int} (h : Py n y) : -20000000 ≤ y ∧ y ≤ 20000000 := by unfold Py at h; omega
theorem py_yb1 {n y : Int} (h : Py n y) : -20000000 ≤ y + 1 ∧ y + 1 ≤ 20000000 := by unfold Py at h; omega
theorem py_no {n y : Int} {P : Prop} (h : Py n y) (h2 : n < first y) : P := by unfold Py at h; exact absurd h.1 (by omega)
theorem py_end {n y : Int} (h : Py n y) (h2 : ¬ first (y + 1) ≤ n) : y = yr n := (yr_of h.1 (by omega)).symm
theorem acc_mo {r k : Int} (hk : 1 ≤ k) : accUp (fun (k x : Int) => if (k.fmod 2 == 1) = true then x - 30 else x - 29) 1 r k = r - (29 * (k - 1) + k / 2) := by
  refine accUp_eq (P := fun k => r - (29 * (k - 1) + k / 2)) hk (by show r - (29 * (1 - 1) + 1 / 2) = r; omega) fun j h1 h2 => ?_
  (try dsimp only)
  rw [fmod_pos_eq (show (0 : Int) ≤ 2 by decide)]
  by_cases h : j % 2 = 1
  · rw [h]; simp only [beq_self_eq_true, if_true]; omega
  · have h0 : j % 2 = 0 := by omega
    rw [h0]
    have : ((0 : Int) == 1) = true ↔ False := by decide
    simp only [this, if_false]; omega
theorem test_mo {r K : Int} (hk : 1 ≤ K) : (if K < 12 then if (K.fmod 2 == 1) = true then if 30 ≤ accUp (fun k x => if (k.fmod 2 == 1) = true then x - 30 else x - 29) 1 r K then true else false
      else if 29 ≤ accUp (fun k x => if (k.fmod 2 == 1) = true then x - 30 else x - 29) 1 r K then true else false else false) = true ↔ K < 12 ∧ 29 + K % 2 ≤ r - (29 * (K - 1) + K / 2) := by
  rw [acc_mo hk, fmod_pos_eq (show (0 : Int) ≤ 2 by decide)]
  by_cases h12 : K < 12
  · rw [if_pos h12]
    by_cases h : K % 2 = 1
    · rw [h]
      simp only [beq_self_eq_true, if_true]
      by_cases h30 : 30 ≤ r - (29 * (K - 1) + K / 2)
      · simp only [h30, if_true, true_iff]; omega
      · simp only [h30, if_false, Bool.false_eq_true, false_iff]; omega
    · have h0 : K % 2 = 0 := by omega
      rw [h0]
      have : ((0 : Int) == 1) = true ↔ False := by decide
      simp only [this, if_false]
      by_cases h30 : 29 ≤ r - (29 * (K - 1) + K / 2)
      · simp only [h30, if_true, true_iff]; omega
      · simp only [h30, if_false, Bool.false_eq_true, false_iff]; omega
  · rw [if_neg h12]
    simp only [Bool.false_eq_true, false_iff]; omega
theorem month_end {n y r k : Int} (hy : y = yr n) (hr : r = n - first y) (h1 : 1 ≤ k) (hall : ∀ K, 1 ≤ K → K < k → (if K < 12 then if (K.fmod 2 == 1) = true then if 30 ≤ accUp (fun k x => if (k.fmod 2 == 1) = true then x - 30 else x - 29) 1 r K then true else false
      else if 29 ≤ accUp (fun k x => if (k.fmod 2 == 1) = true then x - 30 else x - 29) 1 r K then true else false else false) = true)
    (hno : (if k < 12 then if (k.fmod 2 == 1) = true then if 30 ≤ accUp (fun k x => if (k.fmod 2 == 1) = true then x - 30 else x - 29) 1 r k then true else false
      else if 29 ≤ accUp (fun k x => if (k.fmod 2 == 1) = true then x - 30 else x - 29) 1 r k then true else false else false) = false) : k = mo n := by
  have hs := yr_spec n
  rw [← hy] at hs
  have hno' : ¬ (k < 12 ∧ 29 + k % 2 ≤ r - (29 * (k - 1) + k / 2)) := fun q => by rw [(test_mo h1).mpr q] at hno; cases hno
  have hk12 : k ≤ 12 := by
    rcases Int.lt_or_le 12 k with q | q
    · have := (test_mo (by decide)).mp (hall 12 (by decide) q); omega
    · exact q
  have hlow : 29 * (k - 1) + k / 2 ≤ r := by
    rcases Int.lt_or_le 1 k with q | q
    · have := (test_mo (r := r) (K := k - 1) (by omega)).mp (hall (k - 1) (by omega) (by omega)); omega
    · have : k = 1 := by omega
      subst this; omega
  subst hr
  exact (mo_of h1 hk12 (by rw [← hy]; exact hlow) (by rw [← hy]; omega)).symm
section
local macro_rules | `(tactic| walk_at "binaryOp Add float float") => `(tactic| (k_here; refine' w_add_ff ?k1 ?k2 ?k3 ?_; (case k1 => first | with_reducible exact lit_isl | with_reducible exact lit_gre | with_reducible exact lit_295 | with_reducible exact lit_05 | with_reducible rfl); (case k2 => first | with_reducible exact lit_isl | with_reducible exact lit_gre | with_reducible exact lit_295 | with_reducible exact lit_05 | with_reducible rfl); (case k3 => omega); (try dsimp only)))
local macro_rules | `(tactic| walk_at "binaryOp Sub float float") => `(tactic| (k_here; refine' w_sub_ff ?k1 ?k2 ?k3 ?_; (case k1 => first | with_reducible exact lit_isl | with_reducible exact lit_gre | with_reducible exact lit_295 | with_reducible exact lit_05 | with_reducible rfl); (case k2 => first | with_reducible exact lit_isl | with_reducible exact lit_gre | with_reducible exact lit_295 | with_reducible exact lit_05 | with_reducible rfl); (case k3 => omega); (try dsimp only)))
local macro_rules | `(tactic| walk_at "binaryOp Add float int") => `(tactic| (k_here; refine' w_add_fi ?k1 ?k3 ?_; (case k1 => first | with_reducible exact lit_isl | with_reducible exact lit_gre | with_reducible exact lit_295 | with_reducible exact lit_05 | with_reducible rfl); (case k3 => omega); (try dsimp only)))
local macro_rules | `(tactic| walk_at "binaryOp Add int float") => `(tactic| (k_here; refine' w_add_if ?k1 ?k3 ?_; (case k1 => first | with_reducible exact lit_isl | with_reducible exact lit_gre | with_reducible exact lit_295 | with_reducible exact lit_05 | with_reducible rfl); (case k3 => omega); (try dsimp only)))
local macro_rules | `(tactic| walk_at "binaryOp Sub float int") => `(tactic| (k_here; refine' w_sub_fi ?k1 ?k3 ?_; (case k1 => first | with_reducible exact lit_isl | with_reducible exact lit_gre | with_reducible exact lit_295 | with_reducible exact lit_05 | with_reducible rfl); (case k3 => omega); (try dsimp only)))
local macro_rules | `(tactic| walk_at "binaryOp Sub int float") => `(tactic| (k_here; refine' w_sub_if ?k1 ?k3 ?_; (case k1 => first | with_reducible exact lit_isl | with_reducible exact lit_gre | with_reducible exact lit_295 | with_reducible exact lit_05 | with_reducible rfl); (case k3 => omega); (try dsimp only)))
local macro_rules | `(tactic| walk_at "binaryOp Mult float int") => `(tactic| (k_here; refine' w_mul_fi ?k1 ?k3 ?_; (case k1 => first | with_reducible exact lit_isl | with_reducible exact lit_gre | with_reducible exact lit_295 | with_reducible exact lit_05 | with_reducible rfl); (case k3 => omega); (try dsimp only)))
local macro_rules | `(tactic| walk_at "binaryOp Mult int float") => `(tactic| (k_here; refine' w_mul_if ?k1 ?k3 ?_; (case k1 => first | with_reducible exact lit_isl | with_reducible exact lit_gre | with_reducible exact lit_295 | with_reducible exact lit_05 | with_reducible rfl); (case k3 => omega); (try dsimp only)))
local macro_rules | `(tactic| walk_at "binaryOp Div int int") => `(tactic| (k_here; refine' w_div_ii rfl ?k3 ?_; (case k3 => omega); intro q9 hq9; (try dsimp only)))
local macro_rules | `(tactic| walk_at "binaryOp Div float int") => `(tactic| (k_here; refine' w_div_fi rfl ?k1 ?k3 ?_; (case k1 => first | with_reducible exact lit_isl | with_reducible exact lit_gre | with_reducible exact lit_295 | with_reducible exact lit_05 | with_reducible rfl); (case k3 => omega); intro q9 hq9; (try dsimp only)))
local macro_rules | `(tactic| walk_at "binaryOp Div float float") => `(tactic| (k_here; refine' w_div_ff rfl ?k1 ?k2 ?k3 ?_; (case k1 => first | with_reducible exact lit_isl | with_reducible exact lit_gre | with_reducible exact lit_295 | with_reducible exact lit_05 | with_reducible rfl); (case k2 => first | with_reducible exact lit_isl | with_reducible exact lit_gre | with_reducible exact lit_295 | with_reducible exact lit_05 | with_reducible rfl); (case k3 => omega); intro q9 hq9; (try dsimp only)))
local macro_rules | `(tactic| walk_at "call builtin:math.floor") => `(tactic| (k_here; (with_reducible show wpAny _ _ (call _ [Value.float _ _]) _ _ _); first | (refine' w_floor_q rfl ?k1 ?_; (case k1 => with_reducible assumption)) | (refine' w_floor_h rfl ?k1 ?k3 ?_; (case k1 => first | with_reducible exact lit_isl | with_reducible exact lit_gre | with_reducible exact lit_295 | with_reducible exact lit_05 | with_reducible rfl); (case k3 => omega)); (intro z9 hz9; try dsimp only)))
local macro_rules | `(tactic| walk_at "call builtin:math.ceil") => `(tactic| (k_here; (with_reducible show wpAny _ _ (call _ [Value.float _ _]) _ _ _); first | (refine' w_ceil_q rfl ?k1 ?_; (case k1 => with_reducible assumption)) | (refine' w_ceil_h rfl ?k1 ?k3 ?_; (case k1 => first | with_reducible exact lit_isl | with_reducible exact lit_gre | with_reducible exact lit_295 | with_reducible exact lit_05 | with_reducible rfl); (case k3 => omega)); (intro z9 hz9; try dsimp only)))
local macro_rules | `(tactic| walk_at "call type:int") => `(tactic| (k_here; (with_reducible show wpAny _ _ (call _ [Value.float _ _]) _ _ _); refine' w_int_h rfl ?k1 ?k3 ?_; (case k1 => with_reducible rfl); (case k3 => omega); (intro z9 hz9; try dsimp only)))
local macro_rules | `(tactic| walk_at "compareOp NotEq float int") => `(tactic| (k_here; refine' w_ne_fi ?k1 ?k3 ?_; (case k1 => with_reducible rfl); (case k3 => omega); (try dsimp only)))
local macro_rules | `(tactic| walk_at "compareOp Eq float float") => `(tactic| (k_here; refine' w_eq_ff ?k1 ?k2 ?k3 ?_; (case k1 => with_reducible rfl); (case k2 => with_reducible rfl); (case k3 => omega); (try dsimp only)))
local macro_rules | `(tactic| walk_at "call builtin:min") => `(tactic| (k_here; (with_reducible show wpAny _ _ (call (Value.builtin _) [Value.int _ _, Value.int _ _]) _ _ _); k_dflt (refine' w_min ?k1 ?k2 ?k3 ?_; (case k1 => exact rfl); (case k2 => k_asm); (case k3 => k_asm); k_whole); intro r9 t9 h9 tk9 hr9 F9 N9; (try dsimp only)))
local macro_rules | `(tactic| walk_at "call ref") => `(tactic| (k_here; (with_reducible show wpAny _ _ (call (Value.ref 106) _ _) _ _ _); k_dflt (refine' cb_use (c_first _ _ _ _ _ _ _) ?k1 ?k2 ?k3 ?k4 ?k5 ?kK ?kp ?kd ?ku ?_; (case k1 => k_asm); (case k2 => k_asm); (case k3 => k_asm); (case k4 => k_asm); (case k5 => k_asm); (case kK => first | exact rfl | assumption); (case kp => first | exact py_yb (by with_reducible assumption) | exact py_yb1 (by with_reducible assumption) | (dsimp only [Yb, Bd]; omega)); (case kd => ktr_room); (case ku => ktr_units); k_whole); intro t9 h9 tk9 F9 N9 G9; (try dsimp only at G9); (try dsimp only); (try k_fold)))
set_option maxRecDepth 100000 in
set_option maxHeartbeats 8000000 in
theorem c_place (w : World) (mean : ExcName → Option Value) (mg mb : Str → Option Value) (news : List (Addr × Obj)) (n : Int) (t1 : Tok) :
    ClmP 4 PySem.Challenge.rw_bd6011_01.row.prog w (hd.heap_39 w.params) hd.view_39 (looseW hd.view_39 [Str.ofString "to_jd_gregorian", Str.ofString "to_jd_islamic"]) mean mg mb 113 news (-3000000000 ≤ n ∧ n ≤ 3000000000) (-9000000 ≤ yr n ∧ yr n ≤ 9000000 ∧ 1 ≤ mo n ∧ mo n ≤ 12) [.int n t1] (yr n) (mo n) := by
  w_top off
  k_fill
  dsimp only [ClmP, Yb, Bd]
  intro dp un gd cn cs a ccd cl outer A₀ base h₀ L mm s Q E B F K N T hk hpre hd hu hret
  k_with "exec While Compare cons nil" => k_while_given ["number"] (fun number script year => Py number year) (fun number script year => (number - first year).toNat) "year"
  k_with "state" => first | exact py_start (by assumption) | exact py_step (by assumption) (by assumption) | exact py_no (by assumption) (by assumption)
  k_with "measure" => first | exact py_measure (by assumption) (by assumption) | exact py_no (by assumption) (by assumption)
  refine wpAny_call ?_
  k_dflt cell_enter
  k_steps
  have ey := py_end (by with_reducible assumption) (by with_reducible assumption)
  refine w_ret2 hret ey ?_ (by k_asm) (by k_asm) (by assumption)
  exact month_end ey rfl (by with_reducible assumption) (by with_reducible assumption) (by with_reducible assumption)
end
/-! 7. The loop over the twelve months, one turn for all; the contracts in the shapes that the law asks. -/
theorem w_mod {prog : Program} {w : World} {A : Around} {E : Value → Shared → Prop} {s : Shared} {a b : Int} {t u : Tok} {Q : Value → Shared → Prop} (hb : 0 < b)
    (h : ∀ z : Int, 0 ≤ z → z < b → Q (.int z s.toks) { s with toks := s.toks + 1 }) : wpAny (model prog w) A (binaryOp .Mod (.int a t) (.int b u)) Q E s :=
  mod_int' (by omega) (h _ (Int.fmod_nonneg_of_pos a hb) (Int.fmod_lt_of_pos a hb))
theorem w_ne_no {prog : Program} {w : World} {A : Around} {E : Value → Shared → Prop} {s : Shared} {x : UInt64} {a n : Int} {t u : Tok} {Q : Value → Shared → Prop} (hx : x = hf a) (hq : a.natAbs ≤ 2 ^ 53 ∧ a = 2 * n) (h : Q (.bool false) s) :
    wpAny (model prog w) A (compareOp .NotEq (.float x t) (.int n u)) Q E s :=
  w_ne_fi hx hq.1 (by rw [decide_eq_false (fun q => q hq.2)]; exact h)
abbrev MyS (x : Str) (stored : List Str) (m₀ : Str → Option Value) (pre : List Int) : (Str → Option Value) → List (Addr × Obj) → Prop :=
  KstS (σ := Unit) (fun _ => []) (fun _ => []) (fun _ => True) x stored m₀ (fun _ _ => True) pre
theorem w_loop {prog : Program} {w : World} {A : Around} {E : Value → Shared → Prop} {s : Shared} {env : Env} {h₀ : Heap} {x : Str} {body : List Stmt} {Q : Flow → Shared → Prop} {r : Addr} {t₀ u₀ v₀ : Tok} {m₀ : Str → Option Value} (stored : List Str)
    (hh : A.handled = none) (hr : IsRange s.heap r 1 13 1 t₀ u₀ v₀) (F : Fr h₀ env.locals s.heap m₀)
    (turn : ∀ (pre : List Int) (k : Int) (t : Tok) (u : Str → Option Value) (h : Heap) (tk : Nat) (own : List (Addr × Obj)), 1 ≤ k → k ≤ 12 → Fr h₀ env.locals h (fun y => if y = x then some (.int k t) else if stored.contains y = true then u y else m₀ y) → News h₀ env.locals h own →
      wpAny (model prog w) A (execs body env) (InvPostN h₀ env.locals (MyS x stored m₀ (pre ++ [k])) own [] { s with heap := h, toks := tk } Q) E { s with heap := h, toks := tk })
    (done : ∀ (u : Str → Option Value) (h : Heap) (tk : Nat), Fr h₀ env.locals h (fun y => if y = x then u y else if stored.contains y = true then u y else m₀ y) → News h₀ env.locals h [] → Q .next { s with heap := h, toks := tk }) :
    wpAny (model prog w) A (pyIter (.ref r)) (fun it s₂ => LoopAtV prog w A h₀ env x body Q E it s₂) E s :=
  kst_range (σ := Unit) (n := 12) (fun _ => []) (fun _ => []) (fun _ => True) stored (fun _ _ => True) () hh hr (by decide) (by rfl) F (fun p hp => nomatch hp) trivial (fun p hp => nomatch hp) trivial
    (fun c pre k t u h tk own hk hlt _ _ _ F N => turn pre k t u h tk own (by omega) (by omega) F (by simpa using N)) (fun c u h tk _ _ F N => done u h tk F N)
theorem w_turn_end {h₀ h' : Heap} {L : Addr} {x : Str} {stored : List Str} {m₀ m' : Str → Option Value} {pre : List Int} {own news' : List (Addr × Obj)} {s₁ : Shared} {tk : Nat} (F' : Fr h₀ L h' m') (N' : News h₀ L h' news') (ho : ∀ p ∈ own, p ∈ news')
    (hr : ∀ z, z ≠ x → stored.contains z = false → m' z = m₀ z) : InvEndN h₀ L (MyS x stored m₀ pre) own [] s₁ { s₁ with heap := h', toks := tk } :=
  kst_end (σ := Unit) () F' N' (fun p hp => nomatch hp) ho rfl trivial (fun p hp => nomatch hp) (fun z h1 _ h3 => hr z h1 h3) trivial
section
variable {prog : Program} {w : World} {A : Around} {E : Value → Shared → Prop} {s : Shared} {t u : Tok} {Q : Value → Shared → Prop}
theorem w_pow6 (h : Q (.int 1000000 s.toks) { s with toks := s.toks + 1 }) : wpAny (model prog w) A (binaryOp .Pow (.int 10 t) (.int 6 u)) Q E s :=
  pow_int_small (by decide) (by decide) (by decide) (by have e : (10 : Int) ^ (6 : Int).toNat = 1000000 := by decide
                                                        rw [e]; exact h)
theorem w_pow7 (h : Q (.int 10000000 s.toks) { s with toks := s.toks + 1 }) : wpAny (model prog w) A (binaryOp .Pow (.int 10 t) (.int 7 u)) Q E s :=
  pow_int_small (by decide) (by decide) (by decide) (by have e : (10 : Int) ^ (7 : Int).toNat = 10000000 := by decide
                                                        rw [e]; exact h)
end
set_option maxRecDepth 100000 in
set_option maxHeartbeats 8000000 in
theorem c_gp (w : World) (mean : ExcName → Option Value) (mg mb : Str → Option Value) (news : List (Addr × Obj)) (g m d : Int) (t1 t2 t3 : Tok) :
    Clm 6 PySem.Challenge.rw_bd6011_01.row.prog w (hd.heap_39 w.params) hd.view_39 (looseW hd.view_39 [Str.ofString "to_jd_gregorian", Str.ofString "to_jd_islamic"]) mean mg mb 85 news ((-4998000 ≤ g ∧ g ≤ 5002000 ∧ 1 ≤ m ∧ m ≤ 12 ∧ 1 ≤ d ∧ d ≤ 29) ∧ m < mo (jan g)) (-2000000000 ≤ jdn (yr (jan g) + 1) m d ∧ jdn (yr (jan g) + 1) m d ≤ 2000000000 ∧ jdn (yr (jan g) + 1) m d = first (yr (jan g) + 1) + (29 * (m - 1) + m / 2) + d - 1) [.int g t1, .int m t2, .int d t3] (fun t => .float (hf (2 * jdn (yr (jan g) + 1) m d - 1)) t) := by
  intro dp un gd cn cs a ccd cl outer A₀ base h₀ L mm s Q E B F K N T hk hpre hd hu hret
  have e : brg g m = yr (jan g) + 1 := if_pos hpre.2
  refine c_gy w mean mg mb news g m d t1 t2 t3 dp un gd cn cs a ccd cl outer A₀ base h₀ L mm s Q E B F K N T hk hpre.1 hd hu ?_
  intro t h' tk' F' N' G'
  rw [e] at G' ⊢
  exact hret t h' tk' F' N' ⟨G'.1, G'.2, jdn_eq _ _ _⟩
set_option maxRecDepth 100000 in
set_option maxHeartbeats 8000000 in
theorem c_gn (w : World) (mean : ExcName → Option Value) (mg mb : Str → Option Value) (news : List (Addr × Obj)) (g m d : Int) (t1 t2 t3 : Tok) :
    Clm 6 PySem.Challenge.rw_bd6011_01.row.prog w (hd.heap_39 w.params) hd.view_39 (looseW hd.view_39 [Str.ofString "to_jd_gregorian", Str.ofString "to_jd_islamic"]) mean mg mb 85 news ((-4998000 ≤ g ∧ g ≤ 5002000 ∧ 1 ≤ m ∧ m ≤ 12 ∧ 1 ≤ d ∧ d ≤ 29) ∧ ¬ m < mo (jan g)) (-2000000000 ≤ jdn (yr (jan g)) m d ∧ jdn (yr (jan g)) m d ≤ 2000000000 ∧ jdn (yr (jan g)) m d = first (yr (jan g)) + (29 * (m - 1) + m / 2) + d - 1) [.int g t1, .int m t2, .int d t3] (fun t => .float (hf (2 * jdn (yr (jan g)) m d - 1)) t) := by
  intro dp un gd cn cs a ccd cl outer A₀ base h₀ L mm s Q E B F K N T hk hpre hd hu hret
  have e : brg g m = yr (jan g) := if_neg hpre.2
  refine c_gy w mean mg mb news g m d t1 t2 t3 dp un gd cn cs a ccd cl outer A₀ base h₀ L mm s Q E B F K N T hk hpre.1 hd hu ?_
  intro t h' tk' F' N' G'
  rw [e] at G' ⊢
  exact hret t h' tk' F' N' ⟨G'.1, G'.2, jdn_eq _ _ _⟩
set_option maxRecDepth 100000 in
set_option maxHeartbeats 8000000 in
theorem c_back (w : World) (mean : ExcName → Option Value) (mg mb : Str → Option Value) (news : List (Addr × Obj)) (y m d : Int) (t1 : Tok) :
    ClmT 4 PySem.Challenge.rw_bd6011_01.row.prog w (hd.heap_39 w.params) hd.view_39 (looseW hd.view_39 [Str.ofString "to_jd_gregorian", Str.ofString "to_jd_islamic"]) mean mg mb 78 news (1 ≤ m ∧ m ≤ 12 ∧ 1 ≤ d ∧ d ≤ 29 ∧ -2000000000 ≤ jdn y m d ∧ jdn y m d ≤ 2000000000) True [.float (hf (2 * jdn y m d - 1)) t1] y m d := by
  intro dp un gd cn cs a ccd cl outer A₀ base h₀ L mm s Q E B F K N T hk hpre hd hu hret
  obtain ⟨e1, e2, e3⟩ := back (y := y) hpre.1 hpre.2.1 hpre.2.2.1 hpre.2.2.2.1
  refine c_fj w mean mg mb news (jdn y m d) t1 dp un gd cn cs a ccd cl outer A₀ base h₀ L mm s Q E B F K N T hk (by omega) hd hu ?_
  rw [e1, e2, e3]
  exact hret
end Mine
open PySem PySem.W PySem.Calls PyProof.Rows Mine
local macro_rules | `(tactic| walk_at "binaryOp Add float float") => `(tactic| (k_here; refine' w_add_ff ?k1 ?k2 ?k3 ?_; (case k1 => first | with_reducible exact lit_isl | with_reducible exact lit_gre | with_reducible exact lit_295 | with_reducible exact lit_05 | with_reducible rfl); (case k2 => first | with_reducible exact lit_isl | with_reducible exact lit_gre | with_reducible exact lit_295 | with_reducible exact lit_05 | with_reducible rfl); (case k3 => omega); (try dsimp only)))
local macro_rules | `(tactic| walk_at "binaryOp Sub float float") => `(tactic| (k_here; refine' w_sub_ff ?k1 ?k2 ?k3 ?_; (case k1 => first | with_reducible exact lit_isl | with_reducible exact lit_gre | with_reducible exact lit_295 | with_reducible exact lit_05 | with_reducible rfl); (case k2 => first | with_reducible exact lit_isl | with_reducible exact lit_gre | with_reducible exact lit_295 | with_reducible exact lit_05 | with_reducible rfl); (case k3 => omega); (try dsimp only)))
local macro_rules | `(tactic| walk_at "binaryOp Add float int") => `(tactic| (k_here; refine' w_add_fi ?k1 ?k3 ?_; (case k1 => first | with_reducible exact lit_isl | with_reducible exact lit_gre | with_reducible exact lit_295 | with_reducible exact lit_05 | with_reducible rfl); (case k3 => omega); (try dsimp only)))
local macro_rules | `(tactic| walk_at "binaryOp Add int float") => `(tactic| (k_here; refine' w_add_if ?k1 ?k3 ?_; (case k1 => first | with_reducible exact lit_isl | with_reducible exact lit_gre | with_reducible exact lit_295 | with_reducible exact lit_05 | with_reducible rfl); (case k3 => omega); (try dsimp only)))
local macro_rules | `(tactic| walk_at "binaryOp Sub float int") => `(tactic| (k_here; refine' w_sub_fi ?k1 ?k3 ?_; (case k1 => first | with_reducible exact lit_isl | with_reducible exact lit_gre | with_reducible exact lit_295 | with_reducible exact lit_05 | with_reducible rfl); (case k3 => omega); (try dsimp only)))
local macro_rules | `(tactic| walk_at "binaryOp Sub int float") => `(tactic| (k_here; refine' w_sub_if ?k1 ?k3 ?_; (case k1 => first | with_reducible exact lit_isl | with_reducible exact lit_gre | with_reducible exact lit_295 | with_reducible exact lit_05 | with_reducible rfl); (case k3 => omega); (try dsimp only)))
local macro_rules | `(tactic| walk_at "binaryOp Mult float int") => `(tactic| (k_here; refine' w_mul_fi ?k1 ?k3 ?_; (case k1 => first | with_reducible exact lit_isl | with_reducible exact lit_gre | with_reducible exact lit_295 | with_reducible exact lit_05 | with_reducible rfl); (case k3 => omega); (try dsimp only)))
local macro_rules | `(tactic| walk_at "binaryOp Mult int float") => `(tactic| (k_here; refine' w_mul_if ?k1 ?k3 ?_; (case k1 => first | with_reducible exact lit_isl | with_reducible exact lit_gre | with_reducible exact lit_295 | with_reducible exact lit_05 | with_reducible rfl); (case k3 => omega); (try dsimp only)))
local macro_rules | `(tactic| walk_at "binaryOp Div int int") => `(tactic| (k_here; refine' w_div_ii rfl ?k3 ?_; (case k3 => omega); intro q9 hq9; (try dsimp only)))
local macro_rules | `(tactic| walk_at "binaryOp Div float int") => `(tactic| (k_here; refine' w_div_fi rfl ?k1 ?k3 ?_; (case k1 => first | with_reducible exact lit_isl | with_reducible exact lit_gre | with_reducible exact lit_295 | with_reducible exact lit_05 | with_reducible rfl); (case k3 => omega); intro q9 hq9; (try dsimp only)))
local macro_rules | `(tactic| walk_at "binaryOp Div float float") => `(tactic| (k_here; refine' w_div_ff rfl ?k1 ?k2 ?k3 ?_; (case k1 => first | with_reducible exact lit_isl | with_reducible exact lit_gre | with_reducible exact lit_295 | with_reducible exact lit_05 | with_reducible rfl); (case k2 => first | with_reducible exact lit_isl | with_reducible exact lit_gre | with_reducible exact lit_295 | with_reducible exact lit_05 | with_reducible rfl); (case k3 => omega); intro q9 hq9; (try dsimp only)))
local macro_rules | `(tactic| walk_at "call builtin:math.floor") => `(tactic| (k_here; (with_reducible show wpAny _ _ (call _ [Value.float _ _]) _ _ _); first | (refine' w_floor_q rfl ?k1 ?_; (case k1 => with_reducible assumption)) | (refine' w_floor_h rfl ?k1 ?k3 ?_; (case k1 => first | with_reducible exact lit_isl | with_reducible exact lit_gre | with_reducible exact lit_295 | with_reducible exact lit_05 | with_reducible rfl); (case k3 => omega)); (intro z9 hz9; try dsimp only)))
local macro_rules | `(tactic| walk_at "call builtin:math.ceil") => `(tactic| (k_here; (with_reducible show wpAny _ _ (call _ [Value.float _ _]) _ _ _); first | (refine' w_ceil_q rfl ?k1 ?_; (case k1 => with_reducible assumption)) | (refine' w_ceil_h rfl ?k1 ?k3 ?_; (case k1 => first | with_reducible exact lit_isl | with_reducible exact lit_gre | with_reducible exact lit_295 | with_reducible exact lit_05 | with_reducible rfl); (case k3 => omega)); (intro z9 hz9; try dsimp only)))
local macro_rules | `(tactic| walk_at "call type:int") => `(tactic| (k_here; (with_reducible show wpAny _ _ (call _ [Value.float _ _]) _ _ _); refine' w_int_h rfl ?k1 ?k3 ?_; (case k1 => with_reducible rfl); (case k3 => omega); (intro z9 hz9; try dsimp only)))
local macro_rules | `(tactic| walk_at "compareOp NotEq float int") => `(tactic| (k_here; refine' w_ne_fi ?k1 ?k3 ?_; (case k1 => with_reducible rfl); (case k3 => omega); (try dsimp only)))
local macro_rules | `(tactic| walk_at "compareOp Eq float float") => `(tactic| (k_here; refine' w_eq_ff ?k1 ?k2 ?k3 ?_; (case k1 => with_reducible rfl); (case k2 => with_reducible rfl); (case k3 => omega); (try dsimp only)))
local macro_rules | `(tactic| walk_at "call builtin:min") => `(tactic| (k_here; (with_reducible show wpAny _ _ (call (Value.builtin _) [Value.int _ _, Value.int _ _]) _ _ _); k_dflt (refine' w_min ?k1 ?k2 ?k3 ?_; (case k1 => exact rfl); (case k2 => k_asm); (case k3 => k_asm); k_whole); intro r9 t9 h9 tk9 hr9 F9 N9; (try dsimp only)))
local macro_rules | `(tactic| walk_at "call ref") => `(tactic| (k_here; (with_reducible show wpAny _ _ (call (Value.ref 71) _ _) _ _ _); k_dflt (refine' cb_use (c_jdi _ _ _ _ _ _ _ _ _ _ _) ?k1 ?k2 ?k3 ?k4 ?k5 ?kK ?kp ?kd ?ku ?_; (case k1 => k_asm); (case k2 => k_asm); (case k3 => k_asm); (case k4 => k_asm); (case k5 => k_asm); (case kK => first | exact rfl | assumption); (case kp => first | (with_reducible exact True.intro) | (dsimp only [Yb, Bd]; omega)); (case kd => ktr_room); (case ku => ktr_units); k_whole); intro t9 h9 tk9 F9 N9 G9; (try dsimp only at G9); (try dsimp only); (try k_fold)))
local macro_rules | `(tactic| walk_at "call ref") => `(tactic| (k_here; (with_reducible show wpAny _ _ (call (Value.ref 106) _ _) _ _ _); k_dflt (refine' cb_use (c_first _ _ _ _ _ _ _) ?k1 ?k2 ?k3 ?k4 ?k5 ?kK ?kp ?kd ?ku ?_; (case k1 => k_asm); (case k2 => k_asm); (case k3 => k_asm); (case k4 => k_asm); (case k5 => k_asm); (case kK => first | exact rfl | assumption); (case kp => first | (with_reducible exact True.intro) | (dsimp only [Yb, Bd]; omega)); (case kd => ktr_room); (case ku => ktr_units); k_whole); intro t9 h9 tk9 F9 N9 G9; (try dsimp only at G9); (try dsimp only); (try k_fold)))
local macro_rules | `(tactic| walk_at "call ref") => `(tactic| (k_here; (with_reducible show wpAny _ _ (call (Value.ref 99) _ _) _ _ _); k_dflt (refine' cb_use (c_jan _ _ _ _ _ _ _) ?k1 ?k2 ?k3 ?k4 ?k5 ?kK ?kp ?kd ?ku ?_; (case k1 => k_asm); (case k2 => k_asm); (case k3 => k_asm); (case k4 => k_asm); (case k5 => k_asm); (case kK => first | exact rfl | assumption); (case kp => first | (with_reducible exact True.intro) | (dsimp only [Yb, Bd]; omega)); (case kd => ktr_room); (case ku => ktr_units); k_whole); intro t9 h9 tk9 F9 N9 G9; (try dsimp only at G9); (try dsimp only); (try k_fold)))
local macro_rules | `(tactic| walk_at "call ref") => `(tactic| (k_here; (with_reducible show wpAny _ _ (call (Value.ref 120) _ _) _ _ _); k_dflt (refine' cb_use (c_ahead _ _ _ _ _ _ _) ?k1 ?k2 ?k3 ?k4 ?k5 ?kK ?kp ?kd ?ku ?_; (case k1 => k_asm); (case k2 => k_asm); (case k3 => k_asm); (case k4 => k_asm); (case k5 => k_asm); (case kK => first | exact rfl | assumption); (case kp => first | (with_reducible exact True.intro) | (dsimp only [Yb, Bd]; omega)); (case kd => ktr_room); (case ku => ktr_units); k_whole); intro t9 h9 tk9 F9 N9 G9; (try dsimp only at G9); (try dsimp only); (try k_fold)))
local macro_rules | `(tactic| walk_at "call ref") => `(tactic| (k_here; (with_reducible show wpAny _ _ (call (Value.ref 85) _ _) _ _ _); k_dflt (refine' cb_use (c_gn _ _ _ _ _ _ _ _ _ _ _) ?k1 ?k2 ?k3 ?k4 ?k5 ?kK ?kp ?kd ?ku ?_; (case k1 => k_asm); (case k2 => k_asm); (case k3 => k_asm); (case k4 => k_asm); (case k5 => k_asm); (case kK => first | exact rfl | assumption); (case kp => first | (with_reducible exact True.intro) | omega); (case kd => ktr_room); (case ku => ktr_units); k_whole); intro t9 h9 tk9 F9 N9 G9; (try dsimp only at G9); (try dsimp only); (try k_fold)))
local macro_rules | `(tactic| walk_at "call ref") => `(tactic| (k_here; (with_reducible show wpAny _ _ (call (Value.ref 85) _ _) _ _ _); k_dflt (refine' cb_use (c_gp _ _ _ _ _ _ _ _ _ _ _) ?k1 ?k2 ?k3 ?k4 ?k5 ?kK ?kp ?kd ?ku ?_; (case k1 => k_asm); (case k2 => k_asm); (case k3 => k_asm); (case k4 => k_asm); (case k5 => k_asm); (case kK => first | exact rfl | assumption); (case kp => first | (with_reducible exact True.intro) | omega); (case kd => ktr_room); (case ku => ktr_units); k_whole); intro t9 h9 tk9 F9 N9 G9; (try dsimp only at G9); (try dsimp only); (try k_fold)))
local macro_rules | `(tactic| walk_at "call ref") => `(tactic| (k_here; (with_reducible show wpAny _ _ (call (Value.ref 78) _ _) _ _ _); k_dflt (refine' cbT_use (c_back _ _ _ _ _ _ _ _ _) ?k1 ?k2 ?k3 ?k4 ?k5 ?kK ?kp ?kg ?kd ?ku ?_; (case k1 => k_asm); (case k2 => k_asm); (case k3 => k_asm); (case k4 => k_asm); (case k5 => k_asm); (case kK => first | exact rfl | assumption); (case kp => omega); (case kg => exact True.intro); (case kd => ktr_room); (case ku => ktr_units); k_whole); intro r9 t91 t92 t93 h9 tk9 F9 N9 l9 G9; (try dsimp only); (try k_fold)))
local macro_rules | `(tactic| walk_at "call ref") => `(tactic| (k_here; (with_reducible show wpAny _ _ (call (Value.ref 113) _ _) _ _ _); k_dflt (refine' cbP_use (c_place _ _ _ _ _ _ _) ?k1 ?k2 ?k3 ?k4 ?k5 ?kK ?kp ?kg ?kd ?ku ?_; (case k1 => k_asm); (case k2 => k_asm); (case k3 => k_asm); (case k4 => k_asm); (case k5 => k_asm); (case kK => first | exact rfl | assumption); (case kp => omega); (case kg => (exact fj_bd (by omega))); (case kd => ktr_room); (case ku => ktr_units); k_whole); intro r9 t91 t92 h9 tk9 F9 N9 l9 G9; (try dsimp only at G9); (try dsimp only); (try k_fold)))
local macro_rules | `(tactic| walk_at "binaryOp Mod int int") => `(tactic| (k_here; refine' w_mod ?k1 ?_; (case k1 => decide); intro z9 hz9 hz9'; (try dsimp only)))
local macro_rules | `(tactic| walk_at "compareOp NotEq float int") => `(tactic| (k_here; refine' w_ne_no ?k1 ?k3 ?_; (case k1 => with_reducible rfl); (case k3 => omega); (try dsimp only)))
local macro_rules | `(tactic| walk_at "exec For Name Call cons nil") => `(tactic| (k_here; (rename Fr _ _ _ _ => lF'); (with_unfolding_all refine' For_invVF lF' ?k1 ?k2 ?_; (case k1 => exact rfl); (case k2 => exact rfl); k_whole)))
local macro_rules | `(tactic| walk_at "pyIter ref") => `(tactic| ((with_reducible show wpAny _ _ (pyIter (Value.ref _)) (fun it s₂ => LoopAtV _ _ _ _ _ _ _ _ _ it s₂) _ _); k_here; (rename Fr _ _ _ _ => lF'); (rename IsRange _ _ _ _ _ _ _ _ => rgX); (with_unfolding_all refine' w_loop [Str.ofString "bearing", Str.ofString "due", Str.ofString "told"] (by rfl) rgX lF' (fun pre9 k9 t9 u9 h9 tk9 own9 hlo9 hhi9 F9 N9 => ?_) (fun u9 h9 tk9 F9 N9 => ?_)); (all_goals (try clear lF' rgX)); (all_goals (try k_fold))))
local macro_rules | `(tactic| walk_at "InvEndN") => `(tactic| (k_here; (rename News _ _ _ _ => nE'); refine w_turn_end (by assumption) nE' (by (intro p hp; kst_mem)) (by (intro z h1 h3; (simp only [List.contains_cons, List.contains_nil, Bool.or_false, Bool.or_eq_false_iff, beq_eq_false_iff_ne, ne_eq] at h3); simp [h1, h3]))))
local macro_rules | `(tactic| walk_at "binaryOp Add int int") => `(tactic| (k_here; (dsimp only); walk_at "binaryOp Add int int"))
local macro_rules | `(tactic| walk_at "binaryOp Sub int int") => `(tactic| (k_here; (dsimp only); walk_at "binaryOp Sub int int"))
local macro_rules | `(tactic| walk_at "binaryOp Mult int int") => `(tactic| (k_here; (dsimp only); walk_at "binaryOp Mult int int"))
local macro_rules | `(tactic| walk_at "binaryOp Pow int int") => `(tactic| (k_here; (first | (with_reducible refine w_pow6 ?_) | (with_reducible refine w_pow7 ?_)); (try dsimp only)))
set_option maxRecDepth 100000 in
set_option maxHeartbeats 8000000 in
theorem PySem.Challenge.cw_bd6011_01_holds : PySem.Challenge.rw_bd6011_01.Holds := by
  refine Mine.hd ?_
  k_with_none
  w_strict (k_go0; (all_goals try k_fold); k_steps; (all_goals (try k_data)); all_goals w_report)
