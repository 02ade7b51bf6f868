import PyProof.Rows.All
import Wide.All
import OpenK.AllK
import Wide.FinOn
import PySem.Challenge.RW_ad5010_03
set_option Elab.async false
set_option linter.unusedVariables false
set_option maxRecDepth 100000
section
open PySem PySem.W PyProof.Rows
set_option maxHeartbeats 8000000
open_top Mine.hd for PySem.Challenge.rw_ad5010_03
end
section
set_option maxRecDepth 100000
set_option exponentiation.threshold 3000
namespace Mine
open PySem PySem.Float64

theorem bnd_inf : (infMag : Nat) = 9218868437227405312 := by decide
theorem V_inj {a b : Nat} (h : V a = V b) : a = b := by
  rcases Nat.lt_trichotomy a b with h1 | h1 | h1
  · have := V_lt h1; omega
  · exact h1
  · have := V_lt h1; omega
/-- a float is right for W / D, and W / D is the value of t: it is t -/
theorem right_exact {r : UInt64} {neg : Bool} {W D t : Nat} (h : Right r neg W D) (hD : 0 < D) (ht : t < infMag) (e : W = D * V t) : r = pack neg t := by
  obtain ⟨t0, rfl, h1, h2, h3⟩ := h
  have hlt : t0 < infMag := by
    rcases Nat.lt_or_ge t0 infMag with h | h
    · exact h
    · exfalso
      have e1 : t0 = infMag := by omega
      have h4 := h2.mp e1
      have h5 : V t ≤ V (infMag - 1) := V_mono (by omega)
      have hA : V (infMag - 1) = (2 ^ 53 - 1) * 2 ^ 2045 := by
        have e : infMag - 1 = 2045 * 2 ^ 52 + (2 ^ 53 - 1) := by unfold infMag; omega
        rw [e]
        exact V_at (k := 2045) (q := 2 ^ 53 - 1) (by omega) (.inl (by omega))
      rw [e, hA] at *
      have h6 : 2 * (D * V t) ≤ D * (2 * ((2 ^ 53 - 1) * 2 ^ 2045)) := by
        have := Nat.mul_le_mul_left D (Nat.mul_le_mul_left 2 h5)
        calc 2 * (D * V t) = D * (2 * V t) := by ac_rfl
          _ ≤ _ := this
      have h7 := Nat.le_trans h4 h6
      have h8 := Nat.le_of_mul_le_mul_left h7 hD
      have h9 : (2 ^ 54 - 1) ≤ 2 * (2 ^ 53 - 1) := by
        refine Nat.le_of_mul_le_mul_right (c := 2 ^ 2045) ?_ (Nat.two_pow_pos _)
        rw [Nat.mul_assoc]; exact h8
      omega
  have h4 := (h3 hlt t).1
  rw [e] at h4
  have h5 : dist (D * V t) (D * V t) = 0 := by unfold dist; omega
  rw [h5] at h4
  have h6 : D * V t = D * V t0 := by unfold dist at h4; omega
  rw [V_inj (Nat.eq_of_mul_eq_mul_left hD h6)]
/-- the pattern of m * 2 ^ k -/
theorem V_ex (m k : Nat) (h : m < 2 ^ 53) (hk : 60 ≤ k) (hk2 : k < 1080) : ∃ t, t < infMag ∧ V t = m * 2 ^ k := by
  rcases Nat.eq_zero_or_pos m with rfl | hm
  · exact ⟨0, by decide, by rw [V_zero]; simp⟩
  · have hl : m.log2 ≤ 52 := by
      have := Nat.log2_lt (n := m) (k := 53) (by omega)
      have := this.mpr h
      omega
    have h1 : 2 ^ m.log2 ≤ m := Nat.log2_self_le (by omega)
    have h2 : m < 2 ^ (m.log2 + 1) := Nat.lt_log2_self
    have e1 : 2 ^ 52 = 2 ^ m.log2 * 2 ^ (52 - m.log2) := by rw [← Nat.pow_add]; congr 1; omega
    have e2 : 2 ^ 53 = 2 ^ (m.log2 + 1) * 2 ^ (52 - m.log2) := by rw [← Nat.pow_add]; congr 1; omega
    have h3 : 2 ^ 52 ≤ m * 2 ^ (52 - m.log2) := by rw [e1]; exact Nat.mul_le_mul_right _ h1
    have h4 : m * 2 ^ (52 - m.log2) < 2 ^ 53 := by rw [e2]; exact Nat.mul_lt_mul_of_pos_right h2 (Nat.two_pow_pos _)
    refine ⟨(k - (52 - m.log2)) * 2 ^ 52 + m * 2 ^ (52 - m.log2), ?_, ?_⟩
    · rw [bnd_inf]
      have : (k - (52 - m.log2)) * 2 ^ 52 ≤ 1080 * 2 ^ 52 := Nat.mul_le_mul_right _ (by omega)
      omega
    · rw [V_at (by omega) (.inl h3), Nat.mul_assoc, ← Nat.pow_add]
      congr 2; omega

/-- the float n / 1024 -/
def G (n : Int) : UInt64 := ofFrac (decide (n < 0)) n.natAbs 1024
def Ok (n : Int) : Prop := -9007199254740992 < n ∧ n < 9007199254740992
theorem p1064 : (2 : Nat) ^ 1074 = 1024 * 2 ^ 1064 := by
  rw [show (1024 : Nat) = 2 ^ 10 from rfl, ← Nat.pow_add]
theorem G_pack {n : Int} (h : Ok n) : ∃ t, t < infMag ∧ V t = n.natAbs * 2 ^ 1064 ∧ G n = pack (decide (n < 0)) t := by
  unfold Ok at h
  obtain ⟨t, ht, hV⟩ := V_ex n.natAbs 1064 (by omega) (by decide) (by decide)
  refine ⟨t, ht, hV, ?_⟩
  exact right_exact (ofFrac_right (neg := decide (n < 0)) (n := n.natAbs) (d := 1024) (W := n.natAbs * 2 ^ 1064) (D := 1) (by decide) (by rw [p1064]; ac_rfl) (by decide)) (by decide) ht (by rw [hV, Nat.one_mul])
theorem G_of_right {r : UInt64} {n : Int} {W D : Nat} (h : Ok n) (hD : 0 < D) (hr : Right r (decide (n < 0)) W D) (e : W = D * (n.natAbs * 2 ^ 1064)) : r = G n := by
  obtain ⟨t, ht, hV, e1⟩ := G_pack h
  rw [e1]
  exact right_exact hr hD ht (by rw [hV, e])
theorem G_dec {n : Int} (h : Ok n) : ∃ m e, decode (G n) = .fin (decide (n < 0)) m e ∧ val (G n) = n * 2 ^ 1064 ∧ m * 2 ^ (e + 1074).toNat = n.natAbs * 2 ^ 1064 := by
  obtain ⟨t, ht, hV, e1⟩ := G_pack h
  obtain ⟨m, e, hd, he⟩ := decode_pack (decide (n < 0)) ht
  refine ⟨m, e, by rw [e1]; exact hd, ?_, by rw [he, hV]⟩
  rw [e1, val_pack _ ht, hV]
  rw [sgn_mul]
  have : sgn (decide (n < 0)) n.natAbs = n := by
    unfold sgn
    split
    · rename_i h; have := of_decide_eq_true h; omega
    · rename_i h; have : ¬ n < 0 := fun q => h (decide_eq_true q); omega
  rw [this]
  congr 1
theorem G_zero : G 0 = zero false := by decide +kernel
theorem ofInt_G {i : Int} (h : Ok (1024 * i)) : ofInt i = G (1024 * i) := by
  have hr := ofInt_right i
  have e : decide (i < 0) = decide (1024 * i < 0) := by congr 1; apply propext; omega
  rw [e] at hr
  refine G_of_right h (by decide) hr ?_
  rw [p1064, show (1024 * i).natAbs = 1024 * i.natAbs by omega]; ac_rfl
theorem pos1064 : (0 : Int) < 2 ^ 1064 := by
  have : ((2 ^ 1064 : Nat) : Int) = (2 : Int) ^ 1064 := by simp
  rw [← this]; exact Int.ofNat_lt.mpr (Nat.two_pow_pos _)
theorem natAbs_p (a : Int) : (a * 2 ^ 1064).natAbs = a.natAbs * 2 ^ 1064 := by
  rw [Int.natAbs_mul]; congr 1
theorem lt_p (a : Int) : decide (a * 2 ^ 1064 < 0) = decide (a < 0) := by
  congr 1
  apply propext
  have hp := pos1064
  constructor
  · intro h
    rcases Int.lt_or_le a 0 with h1 | h1
    · exact h1
    · have := Int.mul_nonneg h1 (Int.le_of_lt hp); omega
  · intro h
    exact Int.mul_neg_of_neg_of_pos h hp
theorem add_G {a b : Int} (ha : Ok a) (hb : Ok b) (h : Ok (a + b)) : add (G a) (G b) = G (a + b) := by
  obtain ⟨m, e, hd, hv, _⟩ := G_dec ha
  obtain ⟨k, f, hd', hv', _⟩ := G_dec hb
  obtain ⟨h0, h1⟩ := add_right hd hd'
  rw [hv, hv', ← Int.add_mul] at h0 h1
  rcases Decidable.em (a + b = 0) with hz | hz
  · rw [h0 (by rw [hz]; simp), hz, G_zero]
    congr 1
    rcases Decidable.em (a < 0) with q | q
    · have : ¬ b < 0 := by omega
      simp [this]
    · simp [q]
  · have hr := h1 (fun q => by
      rcases Int.mul_eq_zero.mp q with q | q
      · exact hz q
      · exact absurd q (Int.ne_of_gt pos1064))
    rw [lt_p, natAbs_p] at hr
    exact G_of_right h (by decide) hr (by rw [Nat.one_mul])
theorem sub_G {a b : Int} (ha : Ok a) (hb : Ok b) (h : Ok (a - b)) : sub (G a) (G b) = G (a - b) := by
  obtain ⟨m, e, hd, hv, _⟩ := G_dec ha
  obtain ⟨k, f, hd', hv', _⟩ := G_dec hb
  obtain ⟨h0, h1⟩ := sub_right hd hd'
  rw [hv, hv', ← Int.sub_mul] at h0 h1
  rcases Decidable.em (a - b = 0) with hz | hz
  · rw [h0 (by rw [hz]; simp), hz, G_zero]
    congr 1
    rcases Decidable.em (a < 0) with q | q
    · have : b < 0 := by omega
      simp [this]
    · simp [q]
  · have hr := h1 (fun q => by
      rcases Int.mul_eq_zero.mp q with q | q
      · exact hz q
      · exact absurd q (Int.ne_of_gt pos1064))
    rw [lt_p, natAbs_p] at hr
    exact G_of_right h (by decide) hr (by rw [Nat.one_mul])
theorem compare_mul (p q K : Int) (hK : 0 < K) : compare (p * K) (q * K) = compare p q := by
  rcases Int.lt_trichotomy p q with h | h | h
  · rw [Int.compare_eq_lt.mpr h, Int.compare_eq_lt.mpr (Int.mul_lt_mul_of_pos_right h hK)]
  · subst h; simp
  · rw [Int.compare_eq_gt.mpr h, Int.compare_eq_gt.mpr (Int.mul_lt_mul_of_pos_right h hK)]
theorem cmp_G {a b : Int} (ha : Ok a) (hb : Ok b) : cmp (G a) (G b) = some (compare a b) := by
  obtain ⟨m, e, hd, hv, _⟩ := G_dec ha
  obtain ⟨k, f, hd', hv', _⟩ := G_dec hb
  rw [cmp_right hd hd', hv, hv', compare_mul _ _ _ pos1064]
theorem cmpInt_G {a : Int} (ha : Ok a) (i : Int) : cmpInt (G a) i = some (compare a (1024 * i)) := by
  obtain ⟨m, e, hd, hv, _⟩ := G_dec ha
  rw [cmpInt_right hd, hv]
  have : i * 2 ^ 1074 = (1024 * i) * 2 ^ 1064 := by
    have : (2 : Int) ^ 1074 = 1024 * 2 ^ 1064 := by
      rw [show (1024 : Int) = 2 ^ 10 from rfl, ← Int.pow_add]
    rw [this]; ac_rfl
  rw [this, compare_mul _ _ _ pos1064]
/-- the floor of a finite float by its value -/
theorem fdiv_pow (z : Int) (k : Nat) (hk : k ≤ 1074) : (z * 2 ^ (1074 - k)).fdiv (2 ^ 1074) = z.fdiv (2 ^ k) := by
  have e : (2 : Int) ^ 1074 = 2 ^ k * 2 ^ (1074 - k) := by rw [← Int.pow_add]; congr 1; omega
  rw [e]
  have hp : (0 : Int) < 2 ^ (1074 - k) := by
    have : ((2 ^ (1074 - k) : Nat) : Int) = (2 : Int) ^ (1074 - k) := by simp
    rw [← this]; exact Int.ofNat_lt.mpr (Nat.two_pow_pos _)
  have hq : (0 : Int) < 2 ^ k := by
    have : ((2 ^ k : Nat) : Int) = (2 : Int) ^ k := by simp
    rw [← this]; exact Int.ofNat_lt.mpr (Nat.two_pow_pos _)
  rw [Int.fdiv_eq_ediv_of_nonneg _ (Int.le_of_lt (Int.mul_pos hq hp)), Int.fdiv_eq_ediv_of_nonneg _ (Int.le_of_lt hq), Int.mul_ediv_mul_of_pos_left _ _ hp]
theorem floor_val {x : UInt64} {s : Bool} {m : Nat} {e : Int} (hd : decode x = .fin s m e) : floorOf s m e = (val x).fdiv (2 ^ 1074) := by
  have he := decode_ge hd
  rw [val_eq hd, sgn_mul]
  unfold floorOf
  split
  · rename_i h
    have e1 : (e + 1074).toNat = e.toNat + 1074 := by omega
    rw [e1, Nat.pow_add]
    have hp : (0 : Int) < 2 ^ 1074 := by
      have : ((2 ^ 1074 : Nat) : Int) = (2 : Int) ^ 1074 := by simp
      rw [← this]; exact Int.ofNat_lt.mpr (Nat.two_pow_pos _)
    rw [Int.fdiv_eq_ediv_of_nonneg _ (Int.le_of_lt hp)]
    have e2 : (((2 ^ e.toNat * 2 ^ 1074 : Nat)) : Int) = 2 ^ e.toNat * 2 ^ 1074 := by simp
    rw [e2, ← Int.mul_assoc, Int.mul_ediv_cancel _ (Int.ne_of_gt hp)]
  · rename_i h
    have e1 : (e + 1074).toNat = 1074 - (-e).toNat := by omega
    rw [e1]
    have e2 : (((2 ^ (1074 - (-e).toNat) : Nat)) : Int) = 2 ^ (1074 - (-e).toNat) := by simp
    rw [e2, fdiv_pow _ _ (by omega)]
theorem trunc_val {x : UInt64} {s : Bool} {m : Nat} {e : Int} (hd : decode x = .fin s m e) : truncOf s m e = (val x).tdiv (2 ^ 1074) := by
  unfold truncOf
  split
  · rename_i h
    subst h
    unfold ceilOf
    have hdn := neg_decode hd
    have := floor_val hdn
    rw [this, neg_val hd]
    have hneg : val x ≤ 0 := by
      rw [val_eq hd]; unfold sgn; simp only [if_true]; omega
    have hp : (0 : Int) < 2 ^ 1074 := by
      have : ((2 ^ 1074 : Nat) : Int) = (2 : Int) ^ 1074 := by simp
      rw [← this]; exact Int.ofNat_lt.mpr (Nat.two_pow_pos _)
    rw [Int.fdiv_eq_tdiv_of_nonneg (by omega) (Int.le_of_lt hp), Int.neg_tdiv, Int.neg_neg]
  · rename_i h
    have hs : s = false := by cases s <;> simp_all
    subst hs
    rw [floor_val hd]
    have hnn : 0 ≤ val x := by
      rw [val_eq hd]; unfold sgn; simp only [Bool.false_eq_true, if_false]; omega
    have hp : (0 : Int) < 2 ^ 1074 := by
      have : ((2 ^ 1074 : Nat) : Int) = (2 : Int) ^ 1074 := by simp
      rw [← this]; exact Int.ofNat_lt.mpr (Nat.two_pow_pos _)
    rw [Int.fdiv_eq_tdiv_of_nonneg hnn (Int.le_of_lt hp)]
theorem p1074i : (2 : Int) ^ 1074 = 1024 * 2 ^ 1064 := by rw [show (1024 : Int) = 2 ^ 10 from rfl, ← Int.pow_add]
theorem floor_G {a : Int} (ha : Ok a) : Flt.toInt floorOf (G a) = a / 1024 := by
  obtain ⟨m, e, hd, hv, _⟩ := G_dec ha
  rw [Flt.toInt_fin hd, floor_val hd, hv, p1074i, Int.fdiv_eq_ediv_of_nonneg _ (Int.le_of_lt (Int.mul_pos (by decide) pos1064)), Int.mul_ediv_mul_of_pos_left _ _ pos1064]
theorem trunc_G {a : Int} (ha : Ok a) : Flt.toInt truncOf (G a) = a.tdiv 1024 := by
  obtain ⟨m, e, hd, hv, _⟩ := G_dec ha
  rw [Flt.toInt_fin hd, trunc_val hd, hv, p1074i, Int.mul_tdiv_mul_of_pos_left _ _ pos1064]
theorem fin_G {a : Int} (ha : Ok a) : isFinite (G a) = true := by
  obtain ⟨m, e, hd, hv, _⟩ := G_dec ha
  unfold isFinite; rw [hd]
/-! a rounded value lies near -/
theorem V_around (x : Nat) : ∃ t, V t ≤ x ∧ x < V (t + 1) := by
  induction x with
  | zero => exact ⟨0, by rw [V_zero]; omega, by have := V_succ 0; rw [V_zero] at this; exact this⟩
  | succ x ih =>
    obtain ⟨t, h1, h2⟩ := ih
    rcases Nat.lt_or_ge (x + 1) (V (t + 1)) with h | h
    · exact ⟨t, by omega, h⟩
    · exact ⟨t + 1, h, by have := V_succ (t + 1); omega⟩
theorem near {r : UInt64} {neg : Bool} {W D : Nat} (h : Right r neg W D) (hD : 0 < D) (hW : W = 0 ∨ D * 2 ^ 52 ≤ W) (hup : W < D * 2 ^ 1300) :
    ∃ t, t < infMag ∧ r = pack neg t ∧ 2 ^ 53 * dist W (D * V t) ≤ W := by
  obtain ⟨t0, rfl, h1, h2, h3⟩ := h
  have hlt : t0 < infMag := by
    rcases Nat.lt_or_ge t0 infMag with h | h
    · exact h
    · exfalso
      have e1 : t0 = infMag := by omega
      have h4 := h2.mp e1
      clear h3
      have h5 : D * 2 ^ 1300 * 2 ≤ D * ((2 ^ 54 - 1) * 2 ^ 2045) := by
        clear h4 hup h2
        rw [Nat.mul_assoc]
        refine Nat.mul_le_mul_left D ?_
        have : (2 : Nat) ^ 2045 = 2 ^ 1300 * 2 ^ 745 := by rw [← Nat.pow_add]
        rw [this]
        have h6 : 2 ≤ (2 ^ 54 - 1) * 2 ^ 745 := by
          have := Nat.two_pow_pos 745
          omega
        calc 2 ^ 1300 * 2 ≤ 2 ^ 1300 * ((2 ^ 54 - 1) * 2 ^ 745) := Nat.mul_le_mul_left _ h6
          _ = _ := by ac_rfl
      exact absurd (Nat.le_trans h5 h4) (Nat.not_le.mpr (by rw [Nat.mul_comm]; exact Nat.mul_lt_mul_of_pos_right hup (by decide)))
  refine ⟨t0, hlt, rfl, ?_⟩
  rcases hW with rfl | hW
  · have := (h3 hlt 0).1
    rw [V_zero] at this
    unfold dist at *
    omega
  · obtain ⟨t', g1, g2⟩ := V_around (W / D)
    obtain ⟨k, q, ht, hq, hor, hV⟩ := V_form t'
    have hV' : V (t' + 1) = (q + 1) * 2 ^ k := by
      have e : t' + 1 = k * 2 ^ 52 + (q + 1) := by omega
      rw [e, V_at (by omega) (by omega)]
    have hx : 2 ^ 52 ≤ W / D := (Nat.le_div_iff_mul_le hD).mpr (by rw [Nat.mul_comm]; exact hW)
    have hq2 : 2 ^ 52 ≤ q := by
      rcases hor with h | h
      · exact h
      · subst h
        rw [hV'] at g2
        simp at g2
        omega
    have a1 : D * (q * 2 ^ k) ≤ W := by
      rw [← hV, Nat.mul_comm]
      exact (Nat.le_div_iff_mul_le hD).mp g1
    have a2 : W < D * ((q + 1) * 2 ^ k) := by
      rw [← hV', Nat.mul_comm]
      exact (Nat.div_lt_iff_lt_mul hD).mp g2
    have b1 := (h3 hlt t').1
    have b2 := (h3 hlt (t' + 1)).1
    rw [hV] at b1
    rw [hV'] at b2
    have e1 : D * ((q + 1) * 2 ^ k) = D * (q * 2 ^ k) + D * 2 ^ k := by rw [Nat.add_mul, Nat.mul_add, Nat.one_mul]
    have e2 : 2 ^ 52 * (D * 2 ^ k) ≤ D * (q * 2 ^ k) := by
      calc 2 ^ 52 * (D * 2 ^ k) ≤ q * (D * 2 ^ k) := Nat.mul_le_mul_right _ hq2
        _ = _ := by ac_rfl
    rw [e1] at a2 b2
    generalize D * (q * 2 ^ k) = X at *
    generalize D * 2 ^ k = Y at *
    generalize dist W (D * V t0) = Z at *
    unfold dist at b1 b2
    omega
theorem natK : ((2 ^ 1074 : Nat) : Int) = (2 : Int) ^ 1074 := by simp
theorem posK : (0 : Int) < 2 ^ 1074 := by rw [← natK]; exact Int.ofNat_lt.mpr (Nat.two_pow_pos _)
/-- the float n / d, rounded -/
def Qf (n d : Int) : UInt64 := ofFrac (decide (n < 0)) n.natAbs d.natAbs
theorem near_val {r : UInt64} {z : Int} {W D : Nat} (h : Right r (decide (z < 0)) W D) (hD : 0 < D) (hW : W = 0 ∨ D * 2 ^ 52 ≤ W) (hlt : W < D * 2 ^ 1300) :
    ∃ m e, decode r = .fin (decide (z < 0)) m e ∧ 2 ^ 53 * ((val r * D - sgn (decide (z < 0)) W).natAbs) ≤ W := by
  obtain ⟨t, ht, rfl, hb⟩ := near h hD hW hlt
  obtain ⟨m, e, hd, he⟩ := decode_pack (decide (z < 0)) ht
  refine ⟨m, e, hd, ?_⟩
  rw [val_pack _ ht]
  have : (sgn (decide (z < 0)) (V t) * (D : Int) - sgn (decide (z < 0)) W).natAbs = dist W (D * V t) := by
    rw [← sgn_mul, Nat.mul_comm]
    generalize D * V t = X
    unfold sgn dist
    split <;> omega
  rw [this]; exact hb
theorem floor_Qf {n d : Int} (hn : Ok n) (hd : 0 < d) (hd2 : d < 2 ^ 60) : isFinite (Qf n d) = true ∧ Flt.toInt floorOf (Qf n d) = n / d := by
  unfold Ok at hn
  have hDp : 0 < d.natAbs := by omega
  have hR : Right (Qf n d) (decide (n < 0)) (n.natAbs * 2 ^ 1074) d.natAbs := ofFrac_right hDp (by ac_rfl) hDp
  have hdiv := Int.emod_add_mul_ediv n d
  have hm0 := Int.emod_nonneg n (show d ≠ 0 by omega)
  have hm1 := Int.emod_lt_of_pos n hd
  rcases Decidable.em (n % d = 0) with hz | hz
  · -- exact
    have hqb : (n / d).natAbs ≤ n.natAbs := Int.natAbs_ediv_le_natAbs n d
    obtain ⟨t, ht, hV⟩ := V_ex (n / d).natAbs 1074 (by omega) (by decide) (by decide)
    have hnd : n = d * (n / d) := by omega
    have hna : n.natAbs = d.natAbs * (n / d).natAbs := by rw [← Int.natAbs_mul, ← hnd]
    have e := right_exact hR hDp ht (by rw [hV, hna]; ac_rfl)
    obtain ⟨m, e', hdec, he⟩ := decode_pack (decide (n < 0)) ht
    rw [← e] at hdec
    refine ⟨by unfold isFinite; rw [hdec], ?_⟩
    rw [Flt.toInt_fin hdec, floor_val hdec, e, val_pack _ ht, hV, sgn_mul]
    have hs : sgn (decide (n < 0)) (n / d).natAbs = n / d := by
      unfold sgn
      split
      · rename_i h
        have h := of_decide_eq_true h
        have : n / d < 0 := Int.ediv_neg_of_neg_of_pos h hd
        omega
      · rename_i h
        have h : ¬ n < 0 := fun q => h (decide_eq_true q)
        have : 0 ≤ n / d := Int.ediv_nonneg (by omega) (by omega)
        omega
    rw [hs, Int.fdiv_eq_ediv_of_nonneg _ (Int.le_of_lt posK), natK, Int.mul_ediv_cancel _ (Int.ne_of_gt posK)]
  · have hn0 : n ≠ 0 := by intro h; rw [h] at hz; simp at hz
    obtain ⟨m, e, hdec, hb⟩ := near_val (z := n) hR hDp (.inr (by
      have : d.natAbs * 2 ^ 52 ≤ 2 ^ 1074 := by
        have : d.natAbs ≤ 2 ^ 60 := by omega
        calc d.natAbs * 2 ^ 52 ≤ 2 ^ 60 * 2 ^ 52 := Nat.mul_le_mul_right _ this
          _ = 2 ^ 112 := by decide
          _ ≤ 2 ^ 1074 := Nat.pow_le_pow_right (by decide) (by decide)
      have h1 : 1 ≤ n.natAbs := by omega
      calc d.natAbs * 2 ^ 52 ≤ 2 ^ 1074 := this
        _ ≤ n.natAbs * 2 ^ 1074 := Nat.le_mul_of_pos_left _ h1)) (by
      have h1 : n.natAbs < 2 ^ 53 := by omega
      have h2 : n.natAbs * 2 ^ 1074 < 2 ^ 53 * 2 ^ 1074 := Nat.mul_lt_mul_of_pos_right h1 (Nat.two_pow_pos _)
      have h3 : 2 ^ 53 * 2 ^ 1074 ≤ 2 ^ 1300 := by rw [← Nat.pow_add]; exact Nat.pow_le_pow_right (by decide) (by decide)
      have h4 : 2 ^ 1300 ≤ d.natAbs * 2 ^ 1300 := Nat.le_mul_of_pos_left _ hDp
      exact Nat.lt_of_lt_of_le h2 (Nat.le_trans h3 h4))
    refine ⟨by unfold isFinite; rw [hdec], ?_⟩
    rw [Flt.toInt_fin hdec, floor_val hdec, Int.fdiv_eq_ediv_of_nonneg _ (Int.le_of_lt posK)]
    have hs : sgn (decide (n < 0)) (n.natAbs * 2 ^ 1074) = n * 2 ^ 1074 := by
      rw [sgn_mul, natK]
      congr 1
      unfold sgn
      split
      · rename_i h; have h := of_decide_eq_true h; omega
      · rename_i h; have h : ¬ n < 0 := fun q => h (decide_eq_true q); omega
    rw [hs] at hb
    have hdd : ((d.natAbs : Nat) : Int) = d := by omega
    rw [hdd] at hb
    generalize val (Qf n d) = v at *
    have hlt : (v * d - n * 2 ^ 1074).natAbs < 2 ^ 1074 := by
      have h1 : n.natAbs < 2 ^ 53 := by omega
      have h2 : n.natAbs * 2 ^ 1074 < 2 ^ 53 * 2 ^ 1074 := Nat.mul_lt_mul_of_pos_right h1 (Nat.two_pow_pos _)
      exact Nat.lt_of_mul_lt_mul_left (Nat.lt_of_le_of_lt hb h2)
    have hK := posK
    have hlt1 : v * d - n * 2 ^ 1074 < 2 ^ 1074 ∧ -(2 ^ 1074) < v * d - n * 2 ^ 1074 := by
      have : (((v * d - n * 2 ^ 1074).natAbs : Nat) : Int) < ((2 ^ 1074 : Nat) : Int) := Int.ofNat_lt.mpr hlt
      rw [natK] at this
      generalize v * d - n * 2 ^ 1074 = y at *
      generalize (2 : Int) ^ 1074 = K at *
      omega
    clear hb hlt hR hdec
    generalize (2 : Int) ^ 1074 = K at *
    generalize n / d = q at *
    generalize n % d = s at *
    have hn2 : n = q * d + s := by rw [Int.mul_comm]; omega
    have e1 : n * K = q * d * K + s * K := by rw [hn2, Int.add_mul]
    have h1 : K ≤ s * K := by
      have : 1 * K ≤ s * K := Int.mul_le_mul_of_nonneg_right (by omega) (by omega)
      omega
    have h2 : s * K + K ≤ d * K := by
      have : (s + 1) * K ≤ d * K := Int.mul_le_mul_of_nonneg_right (by omega) (by omega)
      rw [Int.add_mul] at this
      omega
    have h3 : q * K * d < v * d := by
      have : q * K * d = q * d * K := by ac_rfl
      omega
    have h4 : v * d < (q * K + K) * d := by
      have e2 : (q * K + K) * d = q * d * K + d * K := by rw [Int.add_mul]; congr 1 <;> ac_rfl
      omega
    have h5 := Int.lt_of_mul_lt_mul_right h3 (by omega)
    have h6 := Int.lt_of_mul_lt_mul_right h4 (by omega)
    exact (Int.ediv_eq_iff_of_pos hK).mpr ⟨by omega, h6⟩

theorem dec_int {A : Int} (h : Ok (1024 * A)) : ∃ m e, decode (G (1024 * A)) = .fin (decide (A < 0)) m e ∧ val (G (1024 * A)) = A * 2 ^ 1074 := by
  obtain ⟨m, e, hd, hv, _⟩ := G_dec h
  have : decide (1024 * A < 0) = decide (A < 0) := by congr 1; apply propext; omega
  rw [this] at hd
  refine ⟨m, e, hd, ?_⟩
  rw [hv, p1074i]; ac_rfl
theorem sgn_self (z : Int) : sgn (decide (z < 0)) z.natAbs = z := by
  unfold sgn
  split
  · rename_i h; have h := of_decide_eq_true h; omega
  · rename_i h; have h : ¬ z < 0 := fun q => h (decide_eq_true q); omega
theorem abs_lt_K {y : Int} {c : Nat} {K : Int} (hK : 0 < K) (h : y.natAbs < c * K.natAbs) : y < c * K ∧ -(c * K) < y := by
  have e : ((K.natAbs : Nat) : Int) = K := by omega
  have : (((y.natAbs : Nat)) : Int) < ((c * K.natAbs : Nat) : Int) := Int.ofNat_lt.mpr h
  rw [Int.natCast_mul, e] at this
  omega
theorem natAbsK : ((2 : Int) ^ 1074).natAbs = 2 ^ 1074 := by rw [← natK]; exact Int.natAbs_natCast _
theorem aux_P {P X : Int} {Y K : Nat} (h : 2 ^ 53 * (P - X).natAbs ≤ Y) (hx : X.natAbs = Y) (h1 : K ≤ Y) (h2 : Y < 2 ^ 59 * K) : K ≤ 2 * P.natAbs ∧ P.natAbs < 2 ^ 60 * K := by omega
/-- the year's count: near the quotient -/
theorem cnt {A : Int} (h1 : -4398046511104 < A) (h2 : A < 4398046511104) :
    isFinite (div (mul (G (1024 * A)) (G (1024 * 98496))) (G (1024 * 35975351))) = true ∧
    35975351 * Flt.toInt floorOf (div (mul (G (1024 * A)) (G (1024 * 98496))) (G (1024 * 35975351))) < 98496 * A + 35975351 ∧
    98496 * A < 35975351 * (Flt.toInt floorOf (div (mul (G (1024 * A)) (G (1024 * 98496))) (G (1024 * 35975351))) + 2) := by
  rcases Decidable.em (A = 0) with rfl | hA0
  · decide +kernel
  have ok1 : Ok (1024 * A) := by unfold Ok; omega
  obtain ⟨m1, e1, d1, v1⟩ := dec_int ok1
  obtain ⟨m2, e2, d2, v2⟩ := dec_int (A := 98496) (by unfold Ok; omega)
  obtain ⟨m3, e3, d3, v3⟩ := dec_int (A := 35975351) (by unfold Ok; omega)
  have hR := mul_right d1 d2
  rw [v1, v2] at hR
  have hne : (decide (A < 0) != decide ((98496 : Int) < 0)) = decide (A < 0) := by simp
  rw [hne] at hR
  generalize mul (G (1024 * A)) (G (1024 * 98496)) = p at *
  have hKp : 0 < (2 : Nat) ^ 1074 := Nat.two_pow_pos _
  have hW : (A * 2 ^ 1074).natAbs * (98496 * 2 ^ 1074 : Int).natAbs = 2 ^ 1074 * (A.natAbs * 98496 * 2 ^ 1074) := by
    rw [Int.natAbs_mul, Int.natAbs_mul, natAbsK]
    have : (98496 : Int).natAbs = 98496 := rfl
    rw [this]; ac_rfl
  have big : (2 : Nat) ^ 52 * 2 ^ 200 ≤ 2 ^ 1074 := by rw [← Nat.pow_add]; exact Nat.pow_le_pow_right (by decide) (by decide)
  have hA1 : 1 ≤ A.natAbs * 98496 := by omega
  have hA2 : A.natAbs * 98496 < 2 ^ 59 := by omega
  rw [hW] at hR
  obtain ⟨mp, ep, dp, bp⟩ := near_val (z := A) hR hKp (.inr (by
      refine Nat.mul_le_mul_left _ ?_
      have : 2 ^ 52 ≤ 2 ^ 1074 := Nat.pow_le_pow_right (by decide) (by decide)
      exact Nat.le_trans this (Nat.le_mul_of_pos_left _ hA1))) (by
      refine Nat.mul_lt_mul_of_pos_left ?_ hKp
      refine Nat.lt_of_lt_of_le (Nat.mul_lt_mul_of_pos_right hA2 hKp) ?_
      rw [← Nat.pow_add]; exact Nat.pow_le_pow_right (by decide) (by decide))
  have hs : sgn (decide (A < 0)) (2 ^ 1074 * (A.natAbs * 98496 * 2 ^ 1074)) = A * 98496 * 2 ^ 1074 * ((2 ^ 1074 : Nat) : Int) := by
    have : 2 ^ 1074 * (A.natAbs * 98496 * 2 ^ 1074) = A.natAbs * (98496 * 2 ^ 1074 * 2 ^ 1074) := by ac_rfl
    rw [this, sgn_mul, sgn_self, Int.natCast_mul, Int.natCast_mul, natK]
    have : ((98496 : Nat) : Int) = 98496 := rfl
    rw [this]; ac_rfl
  rw [hs, ← Int.sub_mul, Int.natAbs_mul, Int.natAbs_natCast] at bp
  -- |P - A * 98496 * K| * 2 ^ 53 ≤ |A| * 98496 * K
  have bp2 : 2 ^ 53 * (val p - A * 98496 * 2 ^ 1074).natAbs ≤ A.natAbs * 98496 * 2 ^ 1074 := by
    refine Nat.le_of_mul_le_mul_left (c := 2 ^ 1074) ?_ hKp
    refine Nat.le_trans (Nat.le_of_eq ?_) bp
    ac_rfl
  have hRd := div_right dp d3 (by
    intro h
    have : val (G (1024 * 35975351)) = 0 := by rw [val_eq d3, h]; simp [sgn]
    rw [v3] at this
    rcases Int.mul_eq_zero.mp this with q | q
    · omega
    · exact absurd q (Int.ne_of_gt posK))
  have hne : (decide (A < 0) != decide ((35975351 : Int) < 0)) = decide (A < 0) := by simp
  rw [hne, v3] at hRd
  have hb3 : (35975351 * 2 ^ 1074 : Int).natAbs = 35975351 * 2 ^ 1074 := by
    rw [Int.natAbs_mul, natAbsK]; rfl
  rw [hb3] at hRd
  have hpv : sgn (decide (A < 0)) (val p).natAbs = val p := by
    rw [val_natAbs dp, ← val_eq dp]
  generalize div p (G (1024 * 35975351)) = r at *
  generalize hP : val p = P at *
  clear dp hR bp d1 d2 d3 v1 v2 v3 hs hW
  have P1 : 2 ^ 1074 ≤ 2 * P.natAbs ∧ P.natAbs < 2 ^ 60 * 2 ^ 1074 := by
    have hx : (A * 98496 * 2 ^ 1074).natAbs = A.natAbs * 98496 * 2 ^ 1074 := by
      rw [Int.natAbs_mul, Int.natAbs_mul, natAbsK]; rfl
    have hx1 : 2 ^ 1074 ≤ A.natAbs * 98496 * 2 ^ 1074 := Nat.le_mul_of_pos_left _ hA1
    have hx2 : A.natAbs * 98496 * 2 ^ 1074 < 2 ^ 59 * 2 ^ 1074 := Nat.mul_lt_mul_of_pos_right hA2 hKp
    exact aux_P bp2 hx hx1 hx2
  obtain ⟨mr, er, dr, br⟩ := near_val (z := A) hRd (by omega) (.inr (by
      have h3 : 35975351 * 2 ^ 1074 * 2 ^ 52 ≤ 2 ^ 1074 * 2 ^ 78 := by
        calc 35975351 * 2 ^ 1074 * 2 ^ 52 = 2 ^ 1074 * (35975351 * 2 ^ 52) := by ac_rfl
          _ ≤ _ := Nat.mul_le_mul_left _ (by decide)
      have h4 : 2 ^ 78 ≤ P.natAbs := by
        have : 2 * 2 ^ 78 ≤ 2 ^ 1074 := by rw [show 2 * 2 ^ 78 = 2 ^ 79 by decide]; exact Nat.pow_le_pow_right (by decide) (by decide)
        have := P1.1
        generalize (2 : Nat) ^ 1074 = K at *
        omega
      calc 35975351 * 2 ^ 1074 * 2 ^ 52 ≤ 2 ^ 1074 * 2 ^ 78 := h3
        _ ≤ 2 ^ 1074 * P.natAbs := Nat.mul_le_mul_left _ h4
        _ = _ := Nat.mul_comm _ _)) (by
      have h3 : P.natAbs * 2 ^ 1074 < 2 ^ 60 * 2 ^ 1074 * 2 ^ 1074 := Nat.mul_lt_mul_of_pos_right P1.2 hKp
      refine Nat.lt_of_lt_of_le h3 ?_
      have h4 : 2 ^ 60 * 2 ^ 1074 * 2 ^ 1074 = 2 ^ 1074 * 2 ^ 1134 := by rw [show (2 : Nat) ^ 1134 = 2 ^ 60 * 2 ^ 1074 by rw [← Nat.pow_add]]
      rw [h4, Nat.mul_assoc]
      have h5 : 2 ^ 1134 ≤ 2 ^ 1300 := Nat.pow_le_pow_right (by decide) (by decide)
      calc 2 ^ 1074 * 2 ^ 1134 ≤ 2 ^ 1074 * 2 ^ 1300 := Nat.mul_le_mul_left _ h5
        _ ≤ _ := Nat.le_mul_of_pos_left _ (by decide))
  have hs : sgn (decide (A < 0)) (P.natAbs * 2 ^ 1074) = P * 2 ^ 1074 := by rw [sgn_mul, hpv, natK]
  have hD : ((35975351 * 2 ^ 1074 : Nat) : Int) = 35975351 * 2 ^ 1074 := by rw [Int.natCast_mul, natK]; rfl
  rw [hs, hD] at br
  have hfin : isFinite r = true := by unfold isFinite; rw [dr]
  refine ⟨hfin, ?_⟩
  rw [Flt.toInt_fin dr, floor_val dr, Int.fdiv_eq_ediv_of_nonneg _ (Int.le_of_lt posK)]
  generalize val r = v at *
  have br2 : 2 ^ 53 * (v * 35975351 - P).natAbs ≤ P.natAbs := by
    refine Nat.le_of_mul_le_mul_left (c := 2 ^ 1074) ?_ hKp
    have : v * (35975351 * 2 ^ 1074) - P * 2 ^ 1074 = (v * 35975351 - P) * 2 ^ 1074 := by rw [Int.sub_mul]; congr 1; ac_rfl
    rw [this, Int.natAbs_mul, natAbsK] at br
    calc 2 ^ 1074 * (2 ^ 53 * (v * 35975351 - P).natAbs) = 2 ^ 53 * ((v * 35975351 - P).natAbs * 2 ^ 1074) := by ac_rfl
      _ ≤ _ := by rw [Nat.mul_comm (2 ^ 1074) P.natAbs]; exact br
  have k1 : (v * 35975351 - P).natAbs < 2 ^ 10 * 2 ^ 1074 := by
    refine Nat.lt_of_mul_lt_mul_left (a := 2 ^ 53) (Nat.lt_of_le_of_lt br2 (Nat.lt_of_lt_of_le P1.2 ?_))
    rw [← Nat.mul_assoc]
    exact Nat.mul_le_mul_right _ (by decide)
  have k2 : (P - A * 98496 * 2 ^ 1074).natAbs < 2 ^ 10 * 2 ^ 1074 := by
    refine Nat.lt_of_mul_lt_mul_left (a := 2 ^ 53) (Nat.lt_of_le_of_lt bp2 (Nat.lt_of_lt_of_le (Nat.mul_lt_mul_of_pos_right hA2 hKp) ?_))
    rw [← Nat.mul_assoc]
    exact Nat.mul_le_mul_right _ (by decide)
  rw [← natAbsK] at k1 k2
  have k1 := abs_lt_K posK k1
  have k2 := abs_lt_K posK k2
  have hK := posK
  have hA : A * 98496 = 98496 * A := Int.mul_comm _ _
  rw [hA] at k2
  clear br br2 bp2 hRd dr hs hD hpv hfin P1 hA hKp big hb3
  have c0 : ((2 ^ 10 : Nat) : Int) = 1024 := rfl
  rw [c0] at k1 k2
  generalize (2 : Int) ^ 1074 = K at *
  have q1 := Int.mul_ediv_self_le (x := v) (k := K) (by omega)
  have q2 := Int.lt_mul_ediv_self_add (x := v) hK
  generalize v / K = c at *
  generalize 98496 * A = B at *
  constructor
  · refine Int.lt_of_mul_lt_mul_right (a := K) ?_ (by omega)
    have : 35975351 * c * K = 35975351 * (K * c) := by ac_rfl
    rw [this, Int.add_mul]
    omega
  · refine Int.lt_of_mul_lt_mul_right (a := K) ?_ (by omega)
    have : 35975351 * (c + 2) * K = 35975351 * (K * c) + 71950702 * K := by rw [Int.mul_add, Int.add_mul]; congr 1; ac_rfl
    rw [this]
    omega
end Mine
end
section
namespace Mine
def leapB (y : Int) : Bool := decide ((y * 7 + 1) % 19 < 7)
def ym (y : Int) : Int := if leapB y = true then 13 else 12
def mo (y : Int) : Int := (235 * y - 234) / 19
def d0 (y : Int) : Int := mo y * 29 + (12084 + 13753 * mo y) / 25920
def d1 (y : Int) : Int := if 3 * (d0 y + 1) % 7 < 3 then d0 y + 1 else d0 y
def d2 (y : Int) : Int := if d1 (y + 1) - d1 y = 356 then 2 else if d1 y - d1 (y - 1) = 382 then 1 else 0
/-- the day ahead of the year's first one -/
def ny (y : Int) : Int := 347996 + d1 y + d2 y
def yl (y : Int) : Int := ny (y + 1) - ny y
theorem mo_bnd {y : Int} (h1 : -10000 < y) (h2 : y < 7300000000) : -123698 < mo y ∧ mo y < 90289473681 := by unfold mo; omega
theorem d0_bnd {y : Int} (h1 : -10000 < y) (h2 : y < 7300000000) : -4000000 < d0 y ∧ d0 y < 2670000000000 := by
  have := mo_bnd h1 h2
  unfold d0; omega
theorem d1_bnd {y : Int} (h1 : -10000 < y) (h2 : y < 7300000000) : -4000000 < d1 y ∧ d1 y ≤ 2670000000000 := by
  have := d0_bnd h1 h2
  unfold d1; split <;> omega
theorem d2_bnd (y : Int) : 0 ≤ d2 y ∧ d2 y ≤ 2 := by unfold d2; split <;> (try split) <;> omega
theorem ny_bnd {y : Int} (h1 : -10000 < y) (h2 : y < 7300000000) : -4000000 < ny y ∧ ny y < 2670000400000 := by
  have := d1_bnd h1 h2
  have := d2_bnd y
  unfold ny; omega

/-! the moon: parts of the day and weekday -/
theorem by19 (y : Int) : ∃ k r : Int, y = 19 * k + r ∧ (r = 0 ∨ r = 1 ∨ r = 2 ∨ r = 3 ∨ r = 4 ∨ r = 5 ∨ r = 6 ∨ r = 7 ∨ r = 8 ∨ r = 9 ∨ r = 10 ∨ r = 11 ∨ r = 12 ∨ r = 13 ∨ r = 14 ∨ r = 15 ∨ r = 16 ∨ r = 17 ∨ r = 18) :=
  ⟨y / 19, y % 19, by omega, by omega⟩
theorem mo_next (y : Int) : mo (y + 1) = mo y + (if leapB y = true then 13 else 12) := by
  unfold mo leapB
  simp only [decide_eq_true_eq]
  obtain ⟨k, r, rfl, h⟩ := by19 y
  rcases h with rfl | rfl | rfl | rfl | rfl | rfl | rfl | rfl | rfl | rfl | rfl | rfl | rfl | rfl | rfl | rfl | rfl | rfl | rfl <;> (split <;> omega)
/-- the whole parts of the year's moon since the evening of day 0 -/
def pt (y : Int) : Int := 765433 * mo y + 12084
theorem d0_pt (y : Int) : d0 y = pt y / 25920 := by unfold d0 pt; omega
theorem pt_next (y : Int) : pt (y + 1) = pt y + (if leapB y = true then 9950629 else 9185196) := by
  unfold pt; rw [mo_next]; split <;> omega
/-- the first day of the year's moon, put off by the weekday -/
def ad (x : Int) : Int := if 3 * (x + 1) % 7 < 3 then x + 1 else x
theorem d1_ad (y : Int) : d1 y = ad (pt y / 25920) := by unfold d1 ad; rw [d0_pt]
theorem leap_pat (y : Int) : (leapB y = true → leapB (y + 1) = false ∧ leapB (y - 1) = false) ∧ (leapB y = false → leapB (y - 1) = false → leapB (y + 1) = true) := by
  unfold leapB
  simp only [decide_eq_true_eq, decide_eq_false_iff_not]
  obtain ⟨k, r, rfl, h⟩ := by19 y
  rcases h with rfl | rfl | rfl | rfl | rfl | rfl | rfl | rfl | rfl | rfl | rfl | rfl | rfl | rfl | rfl | rfl | rfl | rfl | rfl <;> omega

theorem ad_per (k c : Int) : ad (7 * k + c) = 7 * k + ad c := by
  have e : 3 * (7 * k + c + 1) % 7 = 3 * (c + 1) % 7 := by rw [show 3 * (7 * k + c + 1) = 3 * (c + 1) + 7 * (3 * k) by omega, Int.add_mul_emod_self_left]
  unfold ad; rw [e]; split <;> omega
theorem d1_at {y W c : Int} (h : pt y / 25920 = 7 * W + c) : d1 y = 7 * W + ad c := by rw [d1_ad, h, ad_per]
theorem d2_facts (y : Int) : (d1 (y + 1) - d1 y = 356 → d2 y = 2) ∧ (d1 (y + 1) - d1 y ≠ 356 → d1 y - d1 (y - 1) = 382 → d2 y = 1) ∧ (d1 (y + 1) - d1 y ≠ 356 → d1 y - d1 (y - 1) ≠ 382 → d2 y = 0) := by
  unfold d2
  refine ⟨fun h => by rw [if_pos h], fun h h' => by rw [if_neg h, if_pos h'], fun h h' => by rw [if_neg h, if_neg h']⟩
/-- the gates of the week: the first day's place and the year's days -/
def gC (t2 t6 m : Int) : Int × Int := if m < 16404 then (0, 353) else if m < t2 then (0, 355) else if m < 68244 then (1, 354) else if m < 120084 then (3, 354) else if m < 129600 then (3, 355) else if m < t6 then (5, 353) else (5, 355)
def gL (m : Int) : Int × Int := if m < 28571 then (0, 383) else if m < 51840 then (0, 385) else if m < 77760 then (1, 384) else if m < 96815 then (3, 383) else if m < 129600 then (3, 385) else if m < 158171 then (5, 383) else (5, 385)
def gate (y m : Int) : Int × Int := if leapB y = true then gL m else gC (if leapB (y - 1) = true then 49189 else 51840) (if leapB (y + 1) = true then 146004 else 136488) m
theorem gC_facts (t2 t6 m : Int) : (m < 16404 → (gC t2 t6 m).1 = 0 ∧ (gC t2 t6 m).2 = 353) ∧ (16404 ≤ m → m < t2 → (gC t2 t6 m).1 = 0 ∧ (gC t2 t6 m).2 = 355) ∧
    (16404 ≤ m → t2 ≤ m → m < 68244 → (gC t2 t6 m).1 = 1 ∧ (gC t2 t6 m).2 = 354) ∧ (16404 ≤ m → t2 ≤ m → 68244 ≤ m → m < 120084 → (gC t2 t6 m).1 = 3 ∧ (gC t2 t6 m).2 = 354) ∧
    (t2 ≤ m → 120084 ≤ m → m < 129600 → (gC t2 t6 m).1 = 3 ∧ (gC t2 t6 m).2 = 355) ∧ (t2 ≤ m → 129600 ≤ m → m < t6 → (gC t2 t6 m).1 = 5 ∧ (gC t2 t6 m).2 = 353) ∧
    (t2 ≤ m → 129600 ≤ m → t6 ≤ m → (gC t2 t6 m).1 = 5 ∧ (gC t2 t6 m).2 = 355) := by
  unfold gC
  split
  · simp; omega
  split
  · simp; omega
  split
  · simp; omega
  split
  · simp; omega
  split
  · simp; omega
  split
  · simp; omega
  · simp; omega
theorem gL_facts (m : Int) : (m < 28571 → (gL m).1 = 0 ∧ (gL m).2 = 383) ∧ (28571 ≤ m → m < 51840 → (gL m).1 = 0 ∧ (gL m).2 = 385) ∧
    (51840 ≤ m → m < 77760 → (gL m).1 = 1 ∧ (gL m).2 = 384) ∧ (77760 ≤ m → m < 96815 → (gL m).1 = 3 ∧ (gL m).2 = 383) ∧
    (96815 ≤ m → m < 129600 → (gL m).1 = 3 ∧ (gL m).2 = 385) ∧ (129600 ≤ m → m < 158171 → (gL m).1 = 5 ∧ (gL m).2 = 383) ∧
    (158171 ≤ m → (gL m).1 = 5 ∧ (gL m).2 = 385) := by
  unfold gL
  split
  · simp; omega
  split
  · simp; omega
  split
  · simp; omega
  split
  · simp; omega
  split
  · simp; omega
  split
  · simp; omega
  · simp; omega
set_option maxHeartbeats 4000000 in
theorem m_long {y W w r : Int} (hp : pt y = 25920 * (7 * W + w - 1) + r) (h0 : 0 ≤ r) (h1 : r < 25920) (h : w = 0 ∨ w = 1 ∨ w = 2 ∨ w = 3 ∨ w = 4 ∨ w = 5 ∨ w = 6) (hm : pt (y - 1) = pt y - 9185196) (hn : pt (y + 1) = pt y + 9950629) (hs : pt (y + 1 + 1) = pt y + 19135825) :
    d1 y + d2 y = 7 * W + (gL (25920 * w + r)).1 ∧ yl y = (gL (25920 * w + r)).2 := by
  have e1 := d2_facts y
  have e2 := d2_facts (y + 1)
  rw [Int.add_sub_cancel] at e2
  unfold yl ny
  rcases h with rfl | rfl | rfl | rfl | rfl | rfl | rfl
  · rcases (show (0 ≤ r ∧ r < 2651) ∨ (2651 ≤ r ∧ r < 9516) ∨ (9516 ≤ r ∧ r < 19055) ∨ (19055 ≤ r ∧ r < 25920) by omega) with hr | hr | hr | hr
    · have am : d1 (y - 1) = 7 * W + (-356) := d1_at (c := -356) (by omega)
      have a0 : d1 (y) = 7 * W + (0) := d1_at (c := -1) (by omega)
      have an : d1 (y + 1) = 7 * W + (383) := d1_at (c := 382) (by omega)
      have as : d1 (y + 1 + 1) = 7 * W + (738) := d1_at (c := 737) (by omega)
      have v : d2 y = 0 := e1.2.2 (by omega) (by omega)
      have u : d2 (y + 1) = 0 := e2.2.2 (by omega) (by omega)
      rw [show gL (25920 * 0 + r) = (0, 383) by unfold gL; rw [if_pos (show 25920 * 0 + r < 28571 by omega)]]
      constructor <;> dsimp only <;> omega
    · have am : d1 (y - 1) = 7 * W + (-356) := d1_at (c := -356) (by omega)
      have a0 : d1 (y) = 7 * W + (0) := d1_at (c := -1) (by omega)
      have an : d1 (y + 1) = 7 * W + (383) := d1_at (c := 383) (by omega)
      have as : d1 (y + 1 + 1) = 7 * W + (738) := d1_at (c := 737) (by omega)
      have v : d2 y = 0 := e1.2.2 (by omega) (by omega)
      have u : d2 (y + 1) = 0 := e2.2.2 (by omega) (by omega)
      rw [show gL (25920 * 0 + r) = (0, 383) by unfold gL; rw [if_pos (show 25920 * 0 + r < 28571 by omega)]]
      constructor <;> dsimp only <;> omega
    · have am : d1 (y - 1) = 7 * W + (-354) := d1_at (c := -355) (by omega)
      have a0 : d1 (y) = 7 * W + (0) := d1_at (c := -1) (by omega)
      have an : d1 (y + 1) = 7 * W + (383) := d1_at (c := 383) (by omega)
      have as : d1 (y + 1 + 1) = 7 * W + (738) := d1_at (c := 737) (by omega)
      have v : d2 y = 0 := e1.2.2 (by omega) (by omega)
      have u : d2 (y + 1) = 0 := e2.2.2 (by omega) (by omega)
      rw [show gL (25920 * 0 + r) = (0, 383) by unfold gL; rw [if_pos (show 25920 * 0 + r < 28571 by omega)]]
      constructor <;> dsimp only <;> omega
    · have am : d1 (y - 1) = 7 * W + (-354) := d1_at (c := -355) (by omega)
      have a0 : d1 (y) = 7 * W + (0) := d1_at (c := -1) (by omega)
      have an : d1 (y + 1) = 7 * W + (383) := d1_at (c := 383) (by omega)
      have as : d1 (y + 1 + 1) = 7 * W + (738) := d1_at (c := 738) (by omega)
      have v : d2 y = 0 := e1.2.2 (by omega) (by omega)
      have u : d2 (y + 1) = 0 := e2.2.2 (by omega) (by omega)
      rw [show gL (25920 * 0 + r) = (0, 383) by unfold gL; rw [if_pos (show 25920 * 0 + r < 28571 by omega)]]
      constructor <;> dsimp only <;> omega
  · rcases (show (0 ≤ r ∧ r < 2651) ∨ (2651 ≤ r ∧ r < 9516) ∨ (9516 ≤ r ∧ r < 19055) ∨ (19055 ≤ r ∧ r < 25920) by omega) with hr | hr | hr | hr
    · have am : d1 (y - 1) = 7 * W + (-354) := d1_at (c := -355) (by omega)
      have a0 : d1 (y) = 7 * W + (0) := d1_at (c := 0) (by omega)
      have an : d1 (y + 1) = 7 * W + (383) := d1_at (c := 383) (by omega)
      have as : d1 (y + 1 + 1) = 7 * W + (738) := d1_at (c := 738) (by omega)
      have v : d2 y = 0 := e1.2.2 (by omega) (by omega)
      have u : d2 (y + 1) = 0 := e2.2.2 (by omega) (by omega)
      rw [show gL (25920 * 1 + r) = (0, 383) by unfold gL; rw [if_pos (show 25920 * 1 + r < 28571 by omega)]]
      constructor <;> dsimp only <;> omega
    · have am : d1 (y - 1) = 7 * W + (-354) := d1_at (c := -355) (by omega)
      have a0 : d1 (y) = 7 * W + (0) := d1_at (c := 0) (by omega)
      have an : d1 (y + 1) = 7 * W + (385) := d1_at (c := 384) (by omega)
      have as : d1 (y + 1 + 1) = 7 * W + (738) := d1_at (c := 738) (by omega)
      have v : d2 y = 0 := e1.2.2 (by omega) (by omega)
      have u : d2 (y + 1) = 0 := e2.2.2 (by omega) (by omega)
      rw [show gL (25920 * 1 + r) = (0, 385) by unfold gL; rw [if_neg (show ¬ (25920 * 1 + r < 28571) by omega), if_pos (show 25920 * 1 + r < 51840 by omega)]]
      constructor <;> dsimp only <;> omega
    · have am : d1 (y - 1) = 7 * W + (-354) := d1_at (c := -354) (by omega)
      have a0 : d1 (y) = 7 * W + (0) := d1_at (c := 0) (by omega)
      have an : d1 (y + 1) = 7 * W + (385) := d1_at (c := 384) (by omega)
      have as : d1 (y + 1 + 1) = 7 * W + (738) := d1_at (c := 738) (by omega)
      have v : d2 y = 0 := e1.2.2 (by omega) (by omega)
      have u : d2 (y + 1) = 0 := e2.2.2 (by omega) (by omega)
      rw [show gL (25920 * 1 + r) = (0, 385) by unfold gL; rw [if_neg (show ¬ (25920 * 1 + r < 28571) by omega), if_pos (show 25920 * 1 + r < 51840 by omega)]]
      constructor <;> dsimp only <;> omega
    · have am : d1 (y - 1) = 7 * W + (-354) := d1_at (c := -354) (by omega)
      have a0 : d1 (y) = 7 * W + (0) := d1_at (c := 0) (by omega)
      have an : d1 (y + 1) = 7 * W + (385) := d1_at (c := 384) (by omega)
      have as : d1 (y + 1 + 1) = 7 * W + (740) := d1_at (c := 739) (by omega)
      have v : d2 y = 0 := e1.2.2 (by omega) (by omega)
      have u : d2 (y + 1) = 0 := e2.2.2 (by omega) (by omega)
      rw [show gL (25920 * 1 + r) = (0, 385) by unfold gL; rw [if_neg (show ¬ (25920 * 1 + r < 28571) by omega), if_pos (show 25920 * 1 + r < 51840 by omega)]]
      constructor <;> dsimp only <;> omega
  · rcases (show (0 ≤ r ∧ r < 2651) ∨ (2651 ≤ r ∧ r < 9516) ∨ (9516 ≤ r ∧ r < 19055) ∨ (19055 ≤ r ∧ r < 25920) by omega) with hr | hr | hr | hr
    · have am : d1 (y - 1) = 7 * W + (-354) := d1_at (c := -354) (by omega)
      have a0 : d1 (y) = 7 * W + (1) := d1_at (c := 1) (by omega)
      have an : d1 (y + 1) = 7 * W + (385) := d1_at (c := 384) (by omega)
      have as : d1 (y + 1 + 1) = 7 * W + (740) := d1_at (c := 739) (by omega)
      have v : d2 y = 0 := e1.2.2 (by omega) (by omega)
      have u : d2 (y + 1) = 0 := e2.2.2 (by omega) (by omega)
      rw [show gL (25920 * 2 + r) = (1, 384) by unfold gL; rw [if_neg (show ¬ (25920 * 2 + r < 28571) by omega), if_neg (show ¬ (25920 * 2 + r < 51840) by omega), if_pos (show 25920 * 2 + r < 77760 by omega)]]
      constructor <;> dsimp only <;> omega
    · have am : d1 (y - 1) = 7 * W + (-354) := d1_at (c := -354) (by omega)
      have a0 : d1 (y) = 7 * W + (1) := d1_at (c := 1) (by omega)
      have an : d1 (y + 1) = 7 * W + (385) := d1_at (c := 385) (by omega)
      have as : d1 (y + 1 + 1) = 7 * W + (740) := d1_at (c := 739) (by omega)
      have v : d2 y = 0 := e1.2.2 (by omega) (by omega)
      have u : d2 (y + 1) = 0 := e2.2.2 (by omega) (by omega)
      rw [show gL (25920 * 2 + r) = (1, 384) by unfold gL; rw [if_neg (show ¬ (25920 * 2 + r < 28571) by omega), if_neg (show ¬ (25920 * 2 + r < 51840) by omega), if_pos (show 25920 * 2 + r < 77760 by omega)]]
      constructor <;> dsimp only <;> omega
    · have am : d1 (y - 1) = 7 * W + (-352) := d1_at (c := -353) (by omega)
      have a0 : d1 (y) = 7 * W + (1) := d1_at (c := 1) (by omega)
      have an : d1 (y + 1) = 7 * W + (385) := d1_at (c := 385) (by omega)
      have as : d1 (y + 1 + 1) = 7 * W + (740) := d1_at (c := 739) (by omega)
      have v : d2 y = 0 := e1.2.2 (by omega) (by omega)
      have u : d2 (y + 1) = 0 := e2.2.2 (by omega) (by omega)
      rw [show gL (25920 * 2 + r) = (1, 384) by unfold gL; rw [if_neg (show ¬ (25920 * 2 + r < 28571) by omega), if_neg (show ¬ (25920 * 2 + r < 51840) by omega), if_pos (show 25920 * 2 + r < 77760 by omega)]]
      constructor <;> dsimp only <;> omega
    · have am : d1 (y - 1) = 7 * W + (-352) := d1_at (c := -353) (by omega)
      have a0 : d1 (y) = 7 * W + (1) := d1_at (c := 1) (by omega)
      have an : d1 (y + 1) = 7 * W + (385) := d1_at (c := 385) (by omega)
      have as : d1 (y + 1 + 1) = 7 * W + (740) := d1_at (c := 740) (by omega)
      have v : d2 y = 0 := e1.2.2 (by omega) (by omega)
      have u : d2 (y + 1) = 0 := e2.2.2 (by omega) (by omega)
      rw [show gL (25920 * 2 + r) = (1, 384) by unfold gL; rw [if_neg (show ¬ (25920 * 2 + r < 28571) by omega), if_neg (show ¬ (25920 * 2 + r < 51840) by omega), if_pos (show 25920 * 2 + r < 77760 by omega)]]
      constructor <;> dsimp only <;> omega
  · rcases (show (0 ≤ r ∧ r < 2651) ∨ (2651 ≤ r ∧ r < 9516) ∨ (9516 ≤ r ∧ r < 19055) ∨ (19055 ≤ r ∧ r < 25920) by omega) with hr | hr | hr | hr
    · have am : d1 (y - 1) = 7 * W + (-352) := d1_at (c := -353) (by omega)
      have a0 : d1 (y) = 7 * W + (3) := d1_at (c := 2) (by omega)
      have an : d1 (y + 1) = 7 * W + (385) := d1_at (c := 385) (by omega)
      have as : d1 (y + 1 + 1) = 7 * W + (740) := d1_at (c := 740) (by omega)
      have v : d2 y = 0 := e1.2.2 (by omega) (by omega)
      have u : d2 (y + 1) = 1 := e2.2.1 (by omega) (by omega)
      rw [show gL (25920 * 3 + r) = (3, 383) by unfold gL; rw [if_neg (show ¬ (25920 * 3 + r < 28571) by omega), if_neg (show ¬ (25920 * 3 + r < 51840) by omega), if_neg (show ¬ (25920 * 3 + r < 77760) by omega), if_pos (show 25920 * 3 + r < 96815 by omega)]]
      constructor <;> dsimp only <;> omega
    · have am : d1 (y - 1) = 7 * W + (-352) := d1_at (c := -353) (by omega)
      have a0 : d1 (y) = 7 * W + (3) := d1_at (c := 2) (by omega)
      have an : d1 (y + 1) = 7 * W + (386) := d1_at (c := 386) (by omega)
      have as : d1 (y + 1 + 1) = 7 * W + (740) := d1_at (c := 740) (by omega)
      have v : d2 y = 0 := e1.2.2 (by omega) (by omega)
      have u : d2 (y + 1) = 0 := e2.2.2 (by omega) (by omega)
      rw [show gL (25920 * 3 + r) = (3, 383) by unfold gL; rw [if_neg (show ¬ (25920 * 3 + r < 28571) by omega), if_neg (show ¬ (25920 * 3 + r < 51840) by omega), if_neg (show ¬ (25920 * 3 + r < 77760) by omega), if_pos (show 25920 * 3 + r < 96815 by omega)]]
      constructor <;> dsimp only <;> omega
    · have am : d1 (y - 1) = 7 * W + (-352) := d1_at (c := -352) (by omega)
      have a0 : d1 (y) = 7 * W + (3) := d1_at (c := 2) (by omega)
      have an : d1 (y + 1) = 7 * W + (386) := d1_at (c := 386) (by omega)
      have as : d1 (y + 1 + 1) = 7 * W + (740) := d1_at (c := 740) (by omega)
      have v : d2 y = 0 := e1.2.2 (by omega) (by omega)
      have u : d2 (y + 1) = 0 := e2.2.2 (by omega) (by omega)
      rw [show gL (25920 * 3 + r) = (3, 383) by unfold gL; rw [if_neg (show ¬ (25920 * 3 + r < 28571) by omega), if_neg (show ¬ (25920 * 3 + r < 51840) by omega), if_neg (show ¬ (25920 * 3 + r < 77760) by omega), if_pos (show 25920 * 3 + r < 96815 by omega)]]
      constructor <;> dsimp only <;> omega
    · have am : d1 (y - 1) = 7 * W + (-352) := d1_at (c := -352) (by omega)
      have a0 : d1 (y) = 7 * W + (3) := d1_at (c := 2) (by omega)
      have an : d1 (y + 1) = 7 * W + (386) := d1_at (c := 386) (by omega)
      have as : d1 (y + 1 + 1) = 7 * W + (742) := d1_at (c := 741) (by omega)
      have v : d2 y = 0 := e1.2.2 (by omega) (by omega)
      have u : d2 (y + 1) = 2 := e2.1 (by omega)
      rw [show gL (25920 * 3 + r) = (3, 385) by unfold gL; rw [if_neg (show ¬ (25920 * 3 + r < 28571) by omega), if_neg (show ¬ (25920 * 3 + r < 51840) by omega), if_neg (show ¬ (25920 * 3 + r < 77760) by omega), if_neg (show ¬ (25920 * 3 + r < 96815) by omega), if_pos (show 25920 * 3 + r < 129600 by omega)]]
      constructor <;> dsimp only <;> omega
  · rcases (show (0 ≤ r ∧ r < 2651) ∨ (2651 ≤ r ∧ r < 9516) ∨ (9516 ≤ r ∧ r < 19055) ∨ (19055 ≤ r ∧ r < 25920) by omega) with hr | hr | hr | hr
    · have am : d1 (y - 1) = 7 * W + (-352) := d1_at (c := -352) (by omega)
      have a0 : d1 (y) = 7 * W + (3) := d1_at (c := 3) (by omega)
      have an : d1 (y + 1) = 7 * W + (386) := d1_at (c := 386) (by omega)
      have as : d1 (y + 1 + 1) = 7 * W + (742) := d1_at (c := 741) (by omega)
      have v : d2 y = 0 := e1.2.2 (by omega) (by omega)
      have u : d2 (y + 1) = 2 := e2.1 (by omega)
      rw [show gL (25920 * 4 + r) = (3, 385) by unfold gL; rw [if_neg (show ¬ (25920 * 4 + r < 28571) by omega), if_neg (show ¬ (25920 * 4 + r < 51840) by omega), if_neg (show ¬ (25920 * 4 + r < 77760) by omega), if_neg (show ¬ (25920 * 4 + r < 96815) by omega), if_pos (show 25920 * 4 + r < 129600 by omega)]]
      constructor <;> dsimp only <;> omega
    · have am : d1 (y - 1) = 7 * W + (-352) := d1_at (c := -352) (by omega)
      have a0 : d1 (y) = 7 * W + (3) := d1_at (c := 3) (by omega)
      have an : d1 (y + 1) = 7 * W + (388) := d1_at (c := 387) (by omega)
      have as : d1 (y + 1 + 1) = 7 * W + (742) := d1_at (c := 741) (by omega)
      have v : d2 y = 0 := e1.2.2 (by omega) (by omega)
      have u : d2 (y + 1) = 0 := e2.2.2 (by omega) (by omega)
      rw [show gL (25920 * 4 + r) = (3, 385) by unfold gL; rw [if_neg (show ¬ (25920 * 4 + r < 28571) by omega), if_neg (show ¬ (25920 * 4 + r < 51840) by omega), if_neg (show ¬ (25920 * 4 + r < 77760) by omega), if_neg (show ¬ (25920 * 4 + r < 96815) by omega), if_pos (show 25920 * 4 + r < 129600 by omega)]]
      constructor <;> dsimp only <;> omega
    · have am : d1 (y - 1) = 7 * W + (-350) := d1_at (c := -351) (by omega)
      have a0 : d1 (y) = 7 * W + (3) := d1_at (c := 3) (by omega)
      have an : d1 (y + 1) = 7 * W + (388) := d1_at (c := 387) (by omega)
      have as : d1 (y + 1 + 1) = 7 * W + (742) := d1_at (c := 741) (by omega)
      have v : d2 y = 0 := e1.2.2 (by omega) (by omega)
      have u : d2 (y + 1) = 0 := e2.2.2 (by omega) (by omega)
      rw [show gL (25920 * 4 + r) = (3, 385) by unfold gL; rw [if_neg (show ¬ (25920 * 4 + r < 28571) by omega), if_neg (show ¬ (25920 * 4 + r < 51840) by omega), if_neg (show ¬ (25920 * 4 + r < 77760) by omega), if_neg (show ¬ (25920 * 4 + r < 96815) by omega), if_pos (show 25920 * 4 + r < 129600 by omega)]]
      constructor <;> dsimp only <;> omega
    · have am : d1 (y - 1) = 7 * W + (-350) := d1_at (c := -351) (by omega)
      have a0 : d1 (y) = 7 * W + (3) := d1_at (c := 3) (by omega)
      have an : d1 (y + 1) = 7 * W + (388) := d1_at (c := 387) (by omega)
      have as : d1 (y + 1 + 1) = 7 * W + (742) := d1_at (c := 742) (by omega)
      have v : d2 y = 0 := e1.2.2 (by omega) (by omega)
      have u : d2 (y + 1) = 0 := e2.2.2 (by omega) (by omega)
      rw [show gL (25920 * 4 + r) = (3, 385) by unfold gL; rw [if_neg (show ¬ (25920 * 4 + r < 28571) by omega), if_neg (show ¬ (25920 * 4 + r < 51840) by omega), if_neg (show ¬ (25920 * 4 + r < 77760) by omega), if_neg (show ¬ (25920 * 4 + r < 96815) by omega), if_pos (show 25920 * 4 + r < 129600 by omega)]]
      constructor <;> dsimp only <;> omega
  · rcases (show (0 ≤ r ∧ r < 2651) ∨ (2651 ≤ r ∧ r < 9516) ∨ (9516 ≤ r ∧ r < 19055) ∨ (19055 ≤ r ∧ r < 25920) by omega) with hr | hr | hr | hr
    · have am : d1 (y - 1) = 7 * W + (-350) := d1_at (c := -351) (by omega)
      have a0 : d1 (y) = 7 * W + (5) := d1_at (c := 4) (by omega)
      have an : d1 (y + 1) = 7 * W + (388) := d1_at (c := 387) (by omega)
      have as : d1 (y + 1 + 1) = 7 * W + (742) := d1_at (c := 742) (by omega)
      have v : d2 y = 0 := e1.2.2 (by omega) (by omega)
      have u : d2 (y + 1) = 0 := e2.2.2 (by omega) (by omega)
      rw [show gL (25920 * 5 + r) = (5, 383) by unfold gL; rw [if_neg (show ¬ (25920 * 5 + r < 28571) by omega), if_neg (show ¬ (25920 * 5 + r < 51840) by omega), if_neg (show ¬ (25920 * 5 + r < 77760) by omega), if_neg (show ¬ (25920 * 5 + r < 96815) by omega), if_neg (show ¬ (25920 * 5 + r < 129600) by omega), if_pos (show 25920 * 5 + r < 158171 by omega)]]
      constructor <;> dsimp only <;> omega
    · have am : d1 (y - 1) = 7 * W + (-350) := d1_at (c := -351) (by omega)
      have a0 : d1 (y) = 7 * W + (5) := d1_at (c := 4) (by omega)
      have an : d1 (y + 1) = 7 * W + (388) := d1_at (c := 388) (by omega)
      have as : d1 (y + 1 + 1) = 7 * W + (742) := d1_at (c := 742) (by omega)
      have v : d2 y = 0 := e1.2.2 (by omega) (by omega)
      have u : d2 (y + 1) = 0 := e2.2.2 (by omega) (by omega)
      rw [show gL (25920 * 5 + r) = (5, 383) by unfold gL; rw [if_neg (show ¬ (25920 * 5 + r < 28571) by omega), if_neg (show ¬ (25920 * 5 + r < 51840) by omega), if_neg (show ¬ (25920 * 5 + r < 77760) by omega), if_neg (show ¬ (25920 * 5 + r < 96815) by omega), if_neg (show ¬ (25920 * 5 + r < 129600) by omega), if_pos (show 25920 * 5 + r < 158171 by omega)]]
      constructor <;> dsimp only <;> omega
    · have am : d1 (y - 1) = 7 * W + (-350) := d1_at (c := -350) (by omega)
      have a0 : d1 (y) = 7 * W + (5) := d1_at (c := 4) (by omega)
      have an : d1 (y + 1) = 7 * W + (388) := d1_at (c := 388) (by omega)
      have as : d1 (y + 1 + 1) = 7 * W + (742) := d1_at (c := 742) (by omega)
      have v : d2 y = 0 := e1.2.2 (by omega) (by omega)
      have u : d2 (y + 1) = 0 := e2.2.2 (by omega) (by omega)
      rw [show gL (25920 * 5 + r) = (5, 383) by unfold gL; rw [if_neg (show ¬ (25920 * 5 + r < 28571) by omega), if_neg (show ¬ (25920 * 5 + r < 51840) by omega), if_neg (show ¬ (25920 * 5 + r < 77760) by omega), if_neg (show ¬ (25920 * 5 + r < 96815) by omega), if_neg (show ¬ (25920 * 5 + r < 129600) by omega), if_pos (show 25920 * 5 + r < 158171 by omega)]]
      constructor <;> dsimp only <;> omega
    · have am : d1 (y - 1) = 7 * W + (-350) := d1_at (c := -350) (by omega)
      have a0 : d1 (y) = 7 * W + (5) := d1_at (c := 4) (by omega)
      have an : d1 (y + 1) = 7 * W + (388) := d1_at (c := 388) (by omega)
      have as : d1 (y + 1 + 1) = 7 * W + (743) := d1_at (c := 743) (by omega)
      have v : d2 y = 0 := e1.2.2 (by omega) (by omega)
      have u : d2 (y + 1) = 0 := e2.2.2 (by omega) (by omega)
      rw [show gL (25920 * 5 + r) = (5, 383) by unfold gL; rw [if_neg (show ¬ (25920 * 5 + r < 28571) by omega), if_neg (show ¬ (25920 * 5 + r < 51840) by omega), if_neg (show ¬ (25920 * 5 + r < 77760) by omega), if_neg (show ¬ (25920 * 5 + r < 96815) by omega), if_neg (show ¬ (25920 * 5 + r < 129600) by omega), if_pos (show 25920 * 5 + r < 158171 by omega)]]
      constructor <;> dsimp only <;> omega
  · rcases (show (0 ≤ r ∧ r < 2651) ∨ (2651 ≤ r ∧ r < 9516) ∨ (9516 ≤ r ∧ r < 19055) ∨ (19055 ≤ r ∧ r < 25920) by omega) with hr | hr | hr | hr
    · have am : d1 (y - 1) = 7 * W + (-350) := d1_at (c := -350) (by omega)
      have a0 : d1 (y) = 7 * W + (5) := d1_at (c := 5) (by omega)
      have an : d1 (y + 1) = 7 * W + (388) := d1_at (c := 388) (by omega)
      have as : d1 (y + 1 + 1) = 7 * W + (743) := d1_at (c := 743) (by omega)
      have v : d2 y = 0 := e1.2.2 (by omega) (by omega)
      have u : d2 (y + 1) = 0 := e2.2.2 (by omega) (by omega)
      rw [show gL (25920 * 6 + r) = (5, 383) by unfold gL; rw [if_neg (show ¬ (25920 * 6 + r < 28571) by omega), if_neg (show ¬ (25920 * 6 + r < 51840) by omega), if_neg (show ¬ (25920 * 6 + r < 77760) by omega), if_neg (show ¬ (25920 * 6 + r < 96815) by omega), if_neg (show ¬ (25920 * 6 + r < 129600) by omega), if_pos (show 25920 * 6 + r < 158171 by omega)]]
      constructor <;> dsimp only <;> omega
    · have am : d1 (y - 1) = 7 * W + (-350) := d1_at (c := -350) (by omega)
      have a0 : d1 (y) = 7 * W + (5) := d1_at (c := 5) (by omega)
      have an : d1 (y + 1) = 7 * W + (390) := d1_at (c := 389) (by omega)
      have as : d1 (y + 1 + 1) = 7 * W + (743) := d1_at (c := 743) (by omega)
      have v : d2 y = 0 := e1.2.2 (by omega) (by omega)
      have u : d2 (y + 1) = 0 := e2.2.2 (by omega) (by omega)
      rw [show gL (25920 * 6 + r) = (5, 385) by unfold gL; rw [if_neg (show ¬ (25920 * 6 + r < 28571) by omega), if_neg (show ¬ (25920 * 6 + r < 51840) by omega), if_neg (show ¬ (25920 * 6 + r < 77760) by omega), if_neg (show ¬ (25920 * 6 + r < 96815) by omega), if_neg (show ¬ (25920 * 6 + r < 129600) by omega), if_neg (show ¬ (25920 * 6 + r < 158171) by omega)]]
      constructor <;> dsimp only <;> omega
    · have am : d1 (y - 1) = 7 * W + (-349) := d1_at (c := -349) (by omega)
      have a0 : d1 (y) = 7 * W + (5) := d1_at (c := 5) (by omega)
      have an : d1 (y + 1) = 7 * W + (390) := d1_at (c := 389) (by omega)
      have as : d1 (y + 1 + 1) = 7 * W + (743) := d1_at (c := 743) (by omega)
      have v : d2 y = 0 := e1.2.2 (by omega) (by omega)
      have u : d2 (y + 1) = 0 := e2.2.2 (by omega) (by omega)
      rw [show gL (25920 * 6 + r) = (5, 385) by unfold gL; rw [if_neg (show ¬ (25920 * 6 + r < 28571) by omega), if_neg (show ¬ (25920 * 6 + r < 51840) by omega), if_neg (show ¬ (25920 * 6 + r < 77760) by omega), if_neg (show ¬ (25920 * 6 + r < 96815) by omega), if_neg (show ¬ (25920 * 6 + r < 129600) by omega), if_neg (show ¬ (25920 * 6 + r < 158171) by omega)]]
      constructor <;> dsimp only <;> omega
    · have am : d1 (y - 1) = 7 * W + (-349) := d1_at (c := -349) (by omega)
      have a0 : d1 (y) = 7 * W + (5) := d1_at (c := 5) (by omega)
      have an : d1 (y + 1) = 7 * W + (390) := d1_at (c := 389) (by omega)
      have as : d1 (y + 1 + 1) = 7 * W + (745) := d1_at (c := 744) (by omega)
      have v : d2 y = 0 := e1.2.2 (by omega) (by omega)
      have u : d2 (y + 1) = 0 := e2.2.2 (by omega) (by omega)
      rw [show gL (25920 * 6 + r) = (5, 385) by unfold gL; rw [if_neg (show ¬ (25920 * 6 + r < 28571) by omega), if_neg (show ¬ (25920 * 6 + r < 51840) by omega), if_neg (show ¬ (25920 * 6 + r < 77760) by omega), if_neg (show ¬ (25920 * 6 + r < 96815) by omega), if_neg (show ¬ (25920 * 6 + r < 129600) by omega), if_neg (show ¬ (25920 * 6 + r < 158171) by omega)]]
      constructor <;> dsimp only <;> omega
set_option maxHeartbeats 4000000 in
theorem m_ahead {y W w r : Int} (hp : pt y = 25920 * (7 * W + w - 1) + r) (h0 : 0 ≤ r) (h1 : r < 25920) (h : w = 0 ∨ w = 1 ∨ w = 2 ∨ w = 3 ∨ w = 4 ∨ w = 5 ∨ w = 6) (hm : pt (y - 1) = pt y - 9185196) (hn : pt (y + 1) = pt y + 9185196) (hs : pt (y + 1 + 1) = pt y + 19135825) :
    d1 y + d2 y = 7 * W + (gC 51840 146004 (25920 * w + r)).1 ∧ yl y = (gC 51840 146004 (25920 * w + r)).2 := by
  have e1 := d2_facts y
  have e2 := d2_facts (y + 1)
  rw [Int.add_sub_cancel] at e2
  unfold yl ny
  rcases h with rfl | rfl | rfl | rfl | rfl | rfl | rfl
  · rcases (show (0 ≤ r ∧ r < 9516) ∨ (9516 ≤ r ∧ r < 16404) ∨ (16404 ≤ r ∧ r < 19055) ∨ (19055 ≤ r ∧ r < 25920) by omega) with hr | hr | hr | hr
    · have am : d1 (y - 1) = 7 * W + (-356) := d1_at (c := -356) (by omega)
      have a0 : d1 (y) = 7 * W + (0) := d1_at (c := -1) (by omega)
      have an : d1 (y + 1) = 7 * W + (353) := d1_at (c := 353) (by omega)
      have as : d1 (y + 1 + 1) = 7 * W + (738) := d1_at (c := 737) (by omega)
      have v : d2 y = 0 := e1.2.2 (by omega) (by omega)
      have u : d2 (y + 1) = 0 := e2.2.2 (by omega) (by omega)
      rw [show gC 51840 146004 (25920 * 0 + r) = (0, 353) by unfold gC; rw [if_pos (show 25920 * 0 + r < 16404 by omega)]]
      constructor <;> dsimp only <;> omega
    · have am : d1 (y - 1) = 7 * W + (-354) := d1_at (c := -355) (by omega)
      have a0 : d1 (y) = 7 * W + (0) := d1_at (c := -1) (by omega)
      have an : d1 (y + 1) = 7 * W + (353) := d1_at (c := 353) (by omega)
      have as : d1 (y + 1 + 1) = 7 * W + (738) := d1_at (c := 737) (by omega)
      have v : d2 y = 0 := e1.2.2 (by omega) (by omega)
      have u : d2 (y + 1) = 0 := e2.2.2 (by omega) (by omega)
      rw [show gC 51840 146004 (25920 * 0 + r) = (0, 353) by unfold gC; rw [if_pos (show 25920 * 0 + r < 16404 by omega)]]
      constructor <;> dsimp only <;> omega
    · have am : d1 (y - 1) = 7 * W + (-354) := d1_at (c := -355) (by omega)
      have a0 : d1 (y) = 7 * W + (0) := d1_at (c := -1) (by omega)
      have an : d1 (y + 1) = 7 * W + (355) := d1_at (c := 354) (by omega)
      have as : d1 (y + 1 + 1) = 7 * W + (738) := d1_at (c := 737) (by omega)
      have v : d2 y = 0 := e1.2.2 (by omega) (by omega)
      have u : d2 (y + 1) = 0 := e2.2.2 (by omega) (by omega)
      rw [show gC 51840 146004 (25920 * 0 + r) = (0, 355) by unfold gC; rw [if_neg (show ¬ (25920 * 0 + r < 16404) by omega), if_pos (show 25920 * 0 + r < 51840 by omega)]]
      constructor <;> dsimp only <;> omega
    · have am : d1 (y - 1) = 7 * W + (-354) := d1_at (c := -355) (by omega)
      have a0 : d1 (y) = 7 * W + (0) := d1_at (c := -1) (by omega)
      have an : d1 (y + 1) = 7 * W + (355) := d1_at (c := 354) (by omega)
      have as : d1 (y + 1 + 1) = 7 * W + (738) := d1_at (c := 738) (by omega)
      have v : d2 y = 0 := e1.2.2 (by omega) (by omega)
      have u : d2 (y + 1) = 0 := e2.2.2 (by omega) (by omega)
      rw [show gC 51840 146004 (25920 * 0 + r) = (0, 355) by unfold gC; rw [if_neg (show ¬ (25920 * 0 + r < 16404) by omega), if_pos (show 25920 * 0 + r < 51840 by omega)]]
      constructor <;> dsimp only <;> omega
  · rcases (show (0 ≤ r ∧ r < 9516) ∨ (9516 ≤ r ∧ r < 16404) ∨ (16404 ≤ r ∧ r < 19055) ∨ (19055 ≤ r ∧ r < 25920) by omega) with hr | hr | hr | hr
    · have am : d1 (y - 1) = 7 * W + (-354) := d1_at (c := -355) (by omega)
      have a0 : d1 (y) = 7 * W + (0) := d1_at (c := 0) (by omega)
      have an : d1 (y + 1) = 7 * W + (355) := d1_at (c := 354) (by omega)
      have as : d1 (y + 1 + 1) = 7 * W + (738) := d1_at (c := 738) (by omega)
      have v : d2 y = 0 := e1.2.2 (by omega) (by omega)
      have u : d2 (y + 1) = 0 := e2.2.2 (by omega) (by omega)
      rw [show gC 51840 146004 (25920 * 1 + r) = (0, 355) by unfold gC; rw [if_neg (show ¬ (25920 * 1 + r < 16404) by omega), if_pos (show 25920 * 1 + r < 51840 by omega)]]
      constructor <;> dsimp only <;> omega
    · have am : d1 (y - 1) = 7 * W + (-354) := d1_at (c := -354) (by omega)
      have a0 : d1 (y) = 7 * W + (0) := d1_at (c := 0) (by omega)
      have an : d1 (y + 1) = 7 * W + (355) := d1_at (c := 354) (by omega)
      have as : d1 (y + 1 + 1) = 7 * W + (738) := d1_at (c := 738) (by omega)
      have v : d2 y = 0 := e1.2.2 (by omega) (by omega)
      have u : d2 (y + 1) = 0 := e2.2.2 (by omega) (by omega)
      rw [show gC 51840 146004 (25920 * 1 + r) = (0, 355) by unfold gC; rw [if_neg (show ¬ (25920 * 1 + r < 16404) by omega), if_pos (show 25920 * 1 + r < 51840 by omega)]]
      constructor <;> dsimp only <;> omega
    · have am : d1 (y - 1) = 7 * W + (-354) := d1_at (c := -354) (by omega)
      have a0 : d1 (y) = 7 * W + (0) := d1_at (c := 0) (by omega)
      have an : d1 (y + 1) = 7 * W + (355) := d1_at (c := 355) (by omega)
      have as : d1 (y + 1 + 1) = 7 * W + (738) := d1_at (c := 738) (by omega)
      have v : d2 y = 0 := e1.2.2 (by omega) (by omega)
      have u : d2 (y + 1) = 0 := e2.2.2 (by omega) (by omega)
      rw [show gC 51840 146004 (25920 * 1 + r) = (0, 355) by unfold gC; rw [if_neg (show ¬ (25920 * 1 + r < 16404) by omega), if_pos (show 25920 * 1 + r < 51840 by omega)]]
      constructor <;> dsimp only <;> omega
    · have am : d1 (y - 1) = 7 * W + (-354) := d1_at (c := -354) (by omega)
      have a0 : d1 (y) = 7 * W + (0) := d1_at (c := 0) (by omega)
      have an : d1 (y + 1) = 7 * W + (355) := d1_at (c := 355) (by omega)
      have as : d1 (y + 1 + 1) = 7 * W + (740) := d1_at (c := 739) (by omega)
      have v : d2 y = 0 := e1.2.2 (by omega) (by omega)
      have u : d2 (y + 1) = 0 := e2.2.2 (by omega) (by omega)
      rw [show gC 51840 146004 (25920 * 1 + r) = (0, 355) by unfold gC; rw [if_neg (show ¬ (25920 * 1 + r < 16404) by omega), if_pos (show 25920 * 1 + r < 51840 by omega)]]
      constructor <;> dsimp only <;> omega
  · rcases (show (0 ≤ r ∧ r < 9516) ∨ (9516 ≤ r ∧ r < 16404) ∨ (16404 ≤ r ∧ r < 19055) ∨ (19055 ≤ r ∧ r < 25920) by omega) with hr | hr | hr | hr
    · have am : d1 (y - 1) = 7 * W + (-354) := d1_at (c := -354) (by omega)
      have a0 : d1 (y) = 7 * W + (1) := d1_at (c := 1) (by omega)
      have an : d1 (y + 1) = 7 * W + (355) := d1_at (c := 355) (by omega)
      have as : d1 (y + 1 + 1) = 7 * W + (740) := d1_at (c := 739) (by omega)
      have v : d2 y = 0 := e1.2.2 (by omega) (by omega)
      have u : d2 (y + 1) = 0 := e2.2.2 (by omega) (by omega)
      rw [show gC 51840 146004 (25920 * 2 + r) = (1, 354) by unfold gC; rw [if_neg (show ¬ (25920 * 2 + r < 16404) by omega), if_neg (show ¬ (25920 * 2 + r < 51840) by omega), if_pos (show 25920 * 2 + r < 68244 by omega)]]
      constructor <;> dsimp only <;> omega
    · have am : d1 (y - 1) = 7 * W + (-352) := d1_at (c := -353) (by omega)
      have a0 : d1 (y) = 7 * W + (1) := d1_at (c := 1) (by omega)
      have an : d1 (y + 1) = 7 * W + (355) := d1_at (c := 355) (by omega)
      have as : d1 (y + 1 + 1) = 7 * W + (740) := d1_at (c := 739) (by omega)
      have v : d2 y = 0 := e1.2.2 (by omega) (by omega)
      have u : d2 (y + 1) = 0 := e2.2.2 (by omega) (by omega)
      rw [show gC 51840 146004 (25920 * 2 + r) = (1, 354) by unfold gC; rw [if_neg (show ¬ (25920 * 2 + r < 16404) by omega), if_neg (show ¬ (25920 * 2 + r < 51840) by omega), if_pos (show 25920 * 2 + r < 68244 by omega)]]
      constructor <;> dsimp only <;> omega
    · have am : d1 (y - 1) = 7 * W + (-352) := d1_at (c := -353) (by omega)
      have a0 : d1 (y) = 7 * W + (1) := d1_at (c := 1) (by omega)
      have an : d1 (y + 1) = 7 * W + (357) := d1_at (c := 356) (by omega)
      have as : d1 (y + 1 + 1) = 7 * W + (740) := d1_at (c := 739) (by omega)
      have v : d2 y = 2 := e1.1 (by omega)
      have u : d2 (y + 1) = 0 := e2.2.2 (by omega) (by omega)
      rw [show gC 51840 146004 (25920 * 2 + r) = (3, 354) by unfold gC; rw [if_neg (show ¬ (25920 * 2 + r < 16404) by omega), if_neg (show ¬ (25920 * 2 + r < 51840) by omega), if_neg (show ¬ (25920 * 2 + r < 68244) by omega), if_pos (show 25920 * 2 + r < 120084 by omega)]]
      constructor <;> dsimp only <;> omega
    · have am : d1 (y - 1) = 7 * W + (-352) := d1_at (c := -353) (by omega)
      have a0 : d1 (y) = 7 * W + (1) := d1_at (c := 1) (by omega)
      have an : d1 (y + 1) = 7 * W + (357) := d1_at (c := 356) (by omega)
      have as : d1 (y + 1 + 1) = 7 * W + (740) := d1_at (c := 740) (by omega)
      have v : d2 y = 2 := e1.1 (by omega)
      have u : d2 (y + 1) = 0 := e2.2.2 (by omega) (by omega)
      rw [show gC 51840 146004 (25920 * 2 + r) = (3, 354) by unfold gC; rw [if_neg (show ¬ (25920 * 2 + r < 16404) by omega), if_neg (show ¬ (25920 * 2 + r < 51840) by omega), if_neg (show ¬ (25920 * 2 + r < 68244) by omega), if_pos (show 25920 * 2 + r < 120084 by omega)]]
      constructor <;> dsimp only <;> omega
  · rcases (show (0 ≤ r ∧ r < 9516) ∨ (9516 ≤ r ∧ r < 16404) ∨ (16404 ≤ r ∧ r < 19055) ∨ (19055 ≤ r ∧ r < 25920) by omega) with hr | hr | hr | hr
    · have am : d1 (y - 1) = 7 * W + (-352) := d1_at (c := -353) (by omega)
      have a0 : d1 (y) = 7 * W + (3) := d1_at (c := 2) (by omega)
      have an : d1 (y + 1) = 7 * W + (357) := d1_at (c := 356) (by omega)
      have as : d1 (y + 1 + 1) = 7 * W + (740) := d1_at (c := 740) (by omega)
      have v : d2 y = 0 := e1.2.2 (by omega) (by omega)
      have u : d2 (y + 1) = 0 := e2.2.2 (by omega) (by omega)
      rw [show gC 51840 146004 (25920 * 3 + r) = (3, 354) by unfold gC; rw [if_neg (show ¬ (25920 * 3 + r < 16404) by omega), if_neg (show ¬ (25920 * 3 + r < 51840) by omega), if_neg (show ¬ (25920 * 3 + r < 68244) by omega), if_pos (show 25920 * 3 + r < 120084 by omega)]]
      constructor <;> dsimp only <;> omega
    · have am : d1 (y - 1) = 7 * W + (-352) := d1_at (c := -352) (by omega)
      have a0 : d1 (y) = 7 * W + (3) := d1_at (c := 2) (by omega)
      have an : d1 (y + 1) = 7 * W + (357) := d1_at (c := 356) (by omega)
      have as : d1 (y + 1 + 1) = 7 * W + (740) := d1_at (c := 740) (by omega)
      have v : d2 y = 0 := e1.2.2 (by omega) (by omega)
      have u : d2 (y + 1) = 0 := e2.2.2 (by omega) (by omega)
      rw [show gC 51840 146004 (25920 * 3 + r) = (3, 354) by unfold gC; rw [if_neg (show ¬ (25920 * 3 + r < 16404) by omega), if_neg (show ¬ (25920 * 3 + r < 51840) by omega), if_neg (show ¬ (25920 * 3 + r < 68244) by omega), if_pos (show 25920 * 3 + r < 120084 by omega)]]
      constructor <;> dsimp only <;> omega
    · have am : d1 (y - 1) = 7 * W + (-352) := d1_at (c := -352) (by omega)
      have a0 : d1 (y) = 7 * W + (3) := d1_at (c := 2) (by omega)
      have an : d1 (y + 1) = 7 * W + (357) := d1_at (c := 357) (by omega)
      have as : d1 (y + 1 + 1) = 7 * W + (740) := d1_at (c := 740) (by omega)
      have v : d2 y = 0 := e1.2.2 (by omega) (by omega)
      have u : d2 (y + 1) = 0 := e2.2.2 (by omega) (by omega)
      rw [show gC 51840 146004 (25920 * 3 + r) = (3, 354) by unfold gC; rw [if_neg (show ¬ (25920 * 3 + r < 16404) by omega), if_neg (show ¬ (25920 * 3 + r < 51840) by omega), if_neg (show ¬ (25920 * 3 + r < 68244) by omega), if_pos (show 25920 * 3 + r < 120084 by omega)]]
      constructor <;> dsimp only <;> omega
    · have am : d1 (y - 1) = 7 * W + (-352) := d1_at (c := -352) (by omega)
      have a0 : d1 (y) = 7 * W + (3) := d1_at (c := 2) (by omega)
      have an : d1 (y + 1) = 7 * W + (357) := d1_at (c := 357) (by omega)
      have as : d1 (y + 1 + 1) = 7 * W + (742) := d1_at (c := 741) (by omega)
      have v : d2 y = 0 := e1.2.2 (by omega) (by omega)
      have u : d2 (y + 1) = 0 := e2.2.2 (by omega) (by omega)
      rw [show gC 51840 146004 (25920 * 3 + r) = (3, 354) by unfold gC; rw [if_neg (show ¬ (25920 * 3 + r < 16404) by omega), if_neg (show ¬ (25920 * 3 + r < 51840) by omega), if_neg (show ¬ (25920 * 3 + r < 68244) by omega), if_pos (show 25920 * 3 + r < 120084 by omega)]]
      constructor <;> dsimp only <;> omega
  · rcases (show (0 ≤ r ∧ r < 9516) ∨ (9516 ≤ r ∧ r < 16404) ∨ (16404 ≤ r ∧ r < 19055) ∨ (19055 ≤ r ∧ r < 25920) by omega) with hr | hr | hr | hr
    · have am : d1 (y - 1) = 7 * W + (-352) := d1_at (c := -352) (by omega)
      have a0 : d1 (y) = 7 * W + (3) := d1_at (c := 3) (by omega)
      have an : d1 (y + 1) = 7 * W + (357) := d1_at (c := 357) (by omega)
      have as : d1 (y + 1 + 1) = 7 * W + (742) := d1_at (c := 741) (by omega)
      have v : d2 y = 0 := e1.2.2 (by omega) (by omega)
      have u : d2 (y + 1) = 0 := e2.2.2 (by omega) (by omega)
      rw [show gC 51840 146004 (25920 * 4 + r) = (3, 354) by unfold gC; rw [if_neg (show ¬ (25920 * 4 + r < 16404) by omega), if_neg (show ¬ (25920 * 4 + r < 51840) by omega), if_neg (show ¬ (25920 * 4 + r < 68244) by omega), if_pos (show 25920 * 4 + r < 120084 by omega)]]
      constructor <;> dsimp only <;> omega
    · have am : d1 (y - 1) = 7 * W + (-350) := d1_at (c := -351) (by omega)
      have a0 : d1 (y) = 7 * W + (3) := d1_at (c := 3) (by omega)
      have an : d1 (y + 1) = 7 * W + (357) := d1_at (c := 357) (by omega)
      have as : d1 (y + 1 + 1) = 7 * W + (742) := d1_at (c := 741) (by omega)
      have v : d2 y = 0 := e1.2.2 (by omega) (by omega)
      have u : d2 (y + 1) = 0 := e2.2.2 (by omega) (by omega)
      rw [show gC 51840 146004 (25920 * 4 + r) = (3, 354) by unfold gC; rw [if_neg (show ¬ (25920 * 4 + r < 16404) by omega), if_neg (show ¬ (25920 * 4 + r < 51840) by omega), if_neg (show ¬ (25920 * 4 + r < 68244) by omega), if_pos (show 25920 * 4 + r < 120084 by omega)]]
      constructor <;> dsimp only <;> omega
    · have am : d1 (y - 1) = 7 * W + (-350) := d1_at (c := -351) (by omega)
      have a0 : d1 (y) = 7 * W + (3) := d1_at (c := 3) (by omega)
      have an : d1 (y + 1) = 7 * W + (358) := d1_at (c := 358) (by omega)
      have as : d1 (y + 1 + 1) = 7 * W + (742) := d1_at (c := 741) (by omega)
      have v : d2 y = 0 := e1.2.2 (by omega) (by omega)
      have u : d2 (y + 1) = 0 := e2.2.2 (by omega) (by omega)
      rw [show gC 51840 146004 (25920 * 4 + r) = (3, 355) by unfold gC; rw [if_neg (show ¬ (25920 * 4 + r < 16404) by omega), if_neg (show ¬ (25920 * 4 + r < 51840) by omega), if_neg (show ¬ (25920 * 4 + r < 68244) by omega), if_neg (show ¬ (25920 * 4 + r < 120084) by omega), if_pos (show 25920 * 4 + r < 129600 by omega)]]
      constructor <;> dsimp only <;> omega
    · have am : d1 (y - 1) = 7 * W + (-350) := d1_at (c := -351) (by omega)
      have a0 : d1 (y) = 7 * W + (3) := d1_at (c := 3) (by omega)
      have an : d1 (y + 1) = 7 * W + (358) := d1_at (c := 358) (by omega)
      have as : d1 (y + 1 + 1) = 7 * W + (742) := d1_at (c := 742) (by omega)
      have v : d2 y = 0 := e1.2.2 (by omega) (by omega)
      have u : d2 (y + 1) = 0 := e2.2.2 (by omega) (by omega)
      rw [show gC 51840 146004 (25920 * 4 + r) = (3, 355) by unfold gC; rw [if_neg (show ¬ (25920 * 4 + r < 16404) by omega), if_neg (show ¬ (25920 * 4 + r < 51840) by omega), if_neg (show ¬ (25920 * 4 + r < 68244) by omega), if_neg (show ¬ (25920 * 4 + r < 120084) by omega), if_pos (show 25920 * 4 + r < 129600 by omega)]]
      constructor <;> dsimp only <;> omega
  · rcases (show (0 ≤ r ∧ r < 9516) ∨ (9516 ≤ r ∧ r < 16404) ∨ (16404 ≤ r ∧ r < 19055) ∨ (19055 ≤ r ∧ r < 25920) by omega) with hr | hr | hr | hr
    · have am : d1 (y - 1) = 7 * W + (-350) := d1_at (c := -351) (by omega)
      have a0 : d1 (y) = 7 * W + (5) := d1_at (c := 4) (by omega)
      have an : d1 (y + 1) = 7 * W + (358) := d1_at (c := 358) (by omega)
      have as : d1 (y + 1 + 1) = 7 * W + (742) := d1_at (c := 742) (by omega)
      have v : d2 y = 0 := e1.2.2 (by omega) (by omega)
      have u : d2 (y + 1) = 0 := e2.2.2 (by omega) (by omega)
      rw [show gC 51840 146004 (25920 * 5 + r) = (5, 353) by unfold gC; rw [if_neg (show ¬ (25920 * 5 + r < 16404) by omega), if_neg (show ¬ (25920 * 5 + r < 51840) by omega), if_neg (show ¬ (25920 * 5 + r < 68244) by omega), if_neg (show ¬ (25920 * 5 + r < 120084) by omega), if_neg (show ¬ (25920 * 5 + r < 129600) by omega), if_pos (show 25920 * 5 + r < 146004 by omega)]]
      constructor <;> dsimp only <;> omega
    · have am : d1 (y - 1) = 7 * W + (-350) := d1_at (c := -350) (by omega)
      have a0 : d1 (y) = 7 * W + (5) := d1_at (c := 4) (by omega)
      have an : d1 (y + 1) = 7 * W + (358) := d1_at (c := 358) (by omega)
      have as : d1 (y + 1 + 1) = 7 * W + (742) := d1_at (c := 742) (by omega)
      have v : d2 y = 0 := e1.2.2 (by omega) (by omega)
      have u : d2 (y + 1) = 0 := e2.2.2 (by omega) (by omega)
      rw [show gC 51840 146004 (25920 * 5 + r) = (5, 353) by unfold gC; rw [if_neg (show ¬ (25920 * 5 + r < 16404) by omega), if_neg (show ¬ (25920 * 5 + r < 51840) by omega), if_neg (show ¬ (25920 * 5 + r < 68244) by omega), if_neg (show ¬ (25920 * 5 + r < 120084) by omega), if_neg (show ¬ (25920 * 5 + r < 129600) by omega), if_pos (show 25920 * 5 + r < 146004 by omega)]]
      constructor <;> dsimp only <;> omega
    · have am : d1 (y - 1) = 7 * W + (-350) := d1_at (c := -350) (by omega)
      have a0 : d1 (y) = 7 * W + (5) := d1_at (c := 4) (by omega)
      have an : d1 (y + 1) = 7 * W + (360) := d1_at (c := 359) (by omega)
      have as : d1 (y + 1 + 1) = 7 * W + (742) := d1_at (c := 742) (by omega)
      have v : d2 y = 0 := e1.2.2 (by omega) (by omega)
      have u : d2 (y + 1) = 0 := e2.2.2 (by omega) (by omega)
      rw [show gC 51840 146004 (25920 * 5 + r) = (5, 355) by unfold gC; rw [if_neg (show ¬ (25920 * 5 + r < 16404) by omega), if_neg (show ¬ (25920 * 5 + r < 51840) by omega), if_neg (show ¬ (25920 * 5 + r < 68244) by omega), if_neg (show ¬ (25920 * 5 + r < 120084) by omega), if_neg (show ¬ (25920 * 5 + r < 129600) by omega), if_neg (show ¬ (25920 * 5 + r < 146004) by omega)]]
      constructor <;> dsimp only <;> omega
    · have am : d1 (y - 1) = 7 * W + (-350) := d1_at (c := -350) (by omega)
      have a0 : d1 (y) = 7 * W + (5) := d1_at (c := 4) (by omega)
      have an : d1 (y + 1) = 7 * W + (360) := d1_at (c := 359) (by omega)
      have as : d1 (y + 1 + 1) = 7 * W + (743) := d1_at (c := 743) (by omega)
      have v : d2 y = 0 := e1.2.2 (by omega) (by omega)
      have u : d2 (y + 1) = 0 := e2.2.2 (by omega) (by omega)
      rw [show gC 51840 146004 (25920 * 5 + r) = (5, 355) by unfold gC; rw [if_neg (show ¬ (25920 * 5 + r < 16404) by omega), if_neg (show ¬ (25920 * 5 + r < 51840) by omega), if_neg (show ¬ (25920 * 5 + r < 68244) by omega), if_neg (show ¬ (25920 * 5 + r < 120084) by omega), if_neg (show ¬ (25920 * 5 + r < 129600) by omega), if_neg (show ¬ (25920 * 5 + r < 146004) by omega)]]
      constructor <;> dsimp only <;> omega
  · rcases (show (0 ≤ r ∧ r < 9516) ∨ (9516 ≤ r ∧ r < 16404) ∨ (16404 ≤ r ∧ r < 19055) ∨ (19055 ≤ r ∧ r < 25920) by omega) with hr | hr | hr | hr
    · have am : d1 (y - 1) = 7 * W + (-350) := d1_at (c := -350) (by omega)
      have a0 : d1 (y) = 7 * W + (5) := d1_at (c := 5) (by omega)
      have an : d1 (y + 1) = 7 * W + (360) := d1_at (c := 359) (by omega)
      have as : d1 (y + 1 + 1) = 7 * W + (743) := d1_at (c := 743) (by omega)
      have v : d2 y = 0 := e1.2.2 (by omega) (by omega)
      have u : d2 (y + 1) = 0 := e2.2.2 (by omega) (by omega)
      rw [show gC 51840 146004 (25920 * 6 + r) = (5, 355) by unfold gC; rw [if_neg (show ¬ (25920 * 6 + r < 16404) by omega), if_neg (show ¬ (25920 * 6 + r < 51840) by omega), if_neg (show ¬ (25920 * 6 + r < 68244) by omega), if_neg (show ¬ (25920 * 6 + r < 120084) by omega), if_neg (show ¬ (25920 * 6 + r < 129600) by omega), if_neg (show ¬ (25920 * 6 + r < 146004) by omega)]]
      constructor <;> dsimp only <;> omega
    · have am : d1 (y - 1) = 7 * W + (-349) := d1_at (c := -349) (by omega)
      have a0 : d1 (y) = 7 * W + (5) := d1_at (c := 5) (by omega)
      have an : d1 (y + 1) = 7 * W + (360) := d1_at (c := 359) (by omega)
      have as : d1 (y + 1 + 1) = 7 * W + (743) := d1_at (c := 743) (by omega)
      have v : d2 y = 0 := e1.2.2 (by omega) (by omega)
      have u : d2 (y + 1) = 0 := e2.2.2 (by omega) (by omega)
      rw [show gC 51840 146004 (25920 * 6 + r) = (5, 355) by unfold gC; rw [if_neg (show ¬ (25920 * 6 + r < 16404) by omega), if_neg (show ¬ (25920 * 6 + r < 51840) by omega), if_neg (show ¬ (25920 * 6 + r < 68244) by omega), if_neg (show ¬ (25920 * 6 + r < 120084) by omega), if_neg (show ¬ (25920 * 6 + r < 129600) by omega), if_neg (show ¬ (25920 * 6 + r < 146004) by omega)]]
      constructor <;> dsimp only <;> omega
    · have am : d1 (y - 1) = 7 * W + (-349) := d1_at (c := -349) (by omega)
      have a0 : d1 (y) = 7 * W + (5) := d1_at (c := 5) (by omega)
      have an : d1 (y + 1) = 7 * W + (360) := d1_at (c := 360) (by omega)
      have as : d1 (y + 1 + 1) = 7 * W + (743) := d1_at (c := 743) (by omega)
      have v : d2 y = 0 := e1.2.2 (by omega) (by omega)
      have u : d2 (y + 1) = 0 := e2.2.2 (by omega) (by omega)
      rw [show gC 51840 146004 (25920 * 6 + r) = (5, 355) by unfold gC; rw [if_neg (show ¬ (25920 * 6 + r < 16404) by omega), if_neg (show ¬ (25920 * 6 + r < 51840) by omega), if_neg (show ¬ (25920 * 6 + r < 68244) by omega), if_neg (show ¬ (25920 * 6 + r < 120084) by omega), if_neg (show ¬ (25920 * 6 + r < 129600) by omega), if_neg (show ¬ (25920 * 6 + r < 146004) by omega)]]
      constructor <;> dsimp only <;> omega
    · have am : d1 (y - 1) = 7 * W + (-349) := d1_at (c := -349) (by omega)
      have a0 : d1 (y) = 7 * W + (5) := d1_at (c := 5) (by omega)
      have an : d1 (y + 1) = 7 * W + (360) := d1_at (c := 360) (by omega)
      have as : d1 (y + 1 + 1) = 7 * W + (745) := d1_at (c := 744) (by omega)
      have v : d2 y = 0 := e1.2.2 (by omega) (by omega)
      have u : d2 (y + 1) = 0 := e2.2.2 (by omega) (by omega)
      rw [show gC 51840 146004 (25920 * 6 + r) = (5, 355) by unfold gC; rw [if_neg (show ¬ (25920 * 6 + r < 16404) by omega), if_neg (show ¬ (25920 * 6 + r < 51840) by omega), if_neg (show ¬ (25920 * 6 + r < 68244) by omega), if_neg (show ¬ (25920 * 6 + r < 120084) by omega), if_neg (show ¬ (25920 * 6 + r < 129600) by omega), if_neg (show ¬ (25920 * 6 + r < 146004) by omega)]]
      constructor <;> dsimp only <;> omega
set_option maxHeartbeats 4000000 in
theorem m_between {y W w r : Int} (hp : pt y = 25920 * (7 * W + w - 1) + r) (h0 : 0 ≤ r) (h1 : r < 25920) (h : w = 0 ∨ w = 1 ∨ w = 2 ∨ w = 3 ∨ w = 4 ∨ w = 5 ∨ w = 6) (hm : pt (y - 1) = pt y - 9950629) (hn : pt (y + 1) = pt y + 9185196) (hs : pt (y + 1 + 1) = pt y + 19135825) :
    d1 y + d2 y = 7 * W + (gC 49189 146004 (25920 * w + r)).1 ∧ yl y = (gC 49189 146004 (25920 * w + r)).2 := by
  have e1 := d2_facts y
  have e2 := d2_facts (y + 1)
  rw [Int.add_sub_cancel] at e2
  unfold yl ny
  rcases h with rfl | rfl | rfl | rfl | rfl | rfl | rfl
  · rcases (show (0 ≤ r ∧ r < 16404) ∨ (16404 ≤ r ∧ r < 19055) ∨ (19055 ≤ r ∧ r < 23269) ∨ (23269 ≤ r ∧ r < 25920) by omega) with hr | hr | hr | hr
    · have am : d1 (y - 1) = 7 * W + (-385) := d1_at (c := -385) (by omega)
      have a0 : d1 (y) = 7 * W + (0) := d1_at (c := -1) (by omega)
      have an : d1 (y + 1) = 7 * W + (353) := d1_at (c := 353) (by omega)
      have as : d1 (y + 1 + 1) = 7 * W + (738) := d1_at (c := 737) (by omega)
      have v : d2 y = 0 := e1.2.2 (by omega) (by omega)
      have u : d2 (y + 1) = 0 := e2.2.2 (by omega) (by omega)
      rw [show gC 49189 146004 (25920 * 0 + r) = (0, 353) by unfold gC; rw [if_pos (show 25920 * 0 + r < 16404 by omega)]]
      constructor <;> dsimp only <;> omega
    · have am : d1 (y - 1) = 7 * W + (-385) := d1_at (c := -385) (by omega)
      have a0 : d1 (y) = 7 * W + (0) := d1_at (c := -1) (by omega)
      have an : d1 (y + 1) = 7 * W + (355) := d1_at (c := 354) (by omega)
      have as : d1 (y + 1 + 1) = 7 * W + (738) := d1_at (c := 737) (by omega)
      have v : d2 y = 0 := e1.2.2 (by omega) (by omega)
      have u : d2 (y + 1) = 0 := e2.2.2 (by omega) (by omega)
      rw [show gC 49189 146004 (25920 * 0 + r) = (0, 355) by unfold gC; rw [if_neg (show ¬ (25920 * 0 + r < 16404) by omega), if_pos (show 25920 * 0 + r < 49189 by omega)]]
      constructor <;> dsimp only <;> omega
    · have am : d1 (y - 1) = 7 * W + (-385) := d1_at (c := -385) (by omega)
      have a0 : d1 (y) = 7 * W + (0) := d1_at (c := -1) (by omega)
      have an : d1 (y + 1) = 7 * W + (355) := d1_at (c := 354) (by omega)
      have as : d1 (y + 1 + 1) = 7 * W + (738) := d1_at (c := 738) (by omega)
      have v : d2 y = 0 := e1.2.2 (by omega) (by omega)
      have u : d2 (y + 1) = 0 := e2.2.2 (by omega) (by omega)
      rw [show gC 49189 146004 (25920 * 0 + r) = (0, 355) by unfold gC; rw [if_neg (show ¬ (25920 * 0 + r < 16404) by omega), if_pos (show 25920 * 0 + r < 49189 by omega)]]
      constructor <;> dsimp only <;> omega
    · have am : d1 (y - 1) = 7 * W + (-384) := d1_at (c := -384) (by omega)
      have a0 : d1 (y) = 7 * W + (0) := d1_at (c := -1) (by omega)
      have an : d1 (y + 1) = 7 * W + (355) := d1_at (c := 354) (by omega)
      have as : d1 (y + 1 + 1) = 7 * W + (738) := d1_at (c := 738) (by omega)
      have v : d2 y = 0 := e1.2.2 (by omega) (by omega)
      have u : d2 (y + 1) = 0 := e2.2.2 (by omega) (by omega)
      rw [show gC 49189 146004 (25920 * 0 + r) = (0, 355) by unfold gC; rw [if_neg (show ¬ (25920 * 0 + r < 16404) by omega), if_pos (show 25920 * 0 + r < 49189 by omega)]]
      constructor <;> dsimp only <;> omega
  · rcases (show (0 ≤ r ∧ r < 16404) ∨ (16404 ≤ r ∧ r < 19055) ∨ (19055 ≤ r ∧ r < 23269) ∨ (23269 ≤ r ∧ r < 25920) by omega) with hr | hr | hr | hr
    · have am : d1 (y - 1) = 7 * W + (-384) := d1_at (c := -384) (by omega)
      have a0 : d1 (y) = 7 * W + (0) := d1_at (c := 0) (by omega)
      have an : d1 (y + 1) = 7 * W + (355) := d1_at (c := 354) (by omega)
      have as : d1 (y + 1 + 1) = 7 * W + (738) := d1_at (c := 738) (by omega)
      have v : d2 y = 0 := e1.2.2 (by omega) (by omega)
      have u : d2 (y + 1) = 0 := e2.2.2 (by omega) (by omega)
      rw [show gC 49189 146004 (25920 * 1 + r) = (0, 355) by unfold gC; rw [if_neg (show ¬ (25920 * 1 + r < 16404) by omega), if_pos (show 25920 * 1 + r < 49189 by omega)]]
      constructor <;> dsimp only <;> omega
    · have am : d1 (y - 1) = 7 * W + (-384) := d1_at (c := -384) (by omega)
      have a0 : d1 (y) = 7 * W + (0) := d1_at (c := 0) (by omega)
      have an : d1 (y + 1) = 7 * W + (355) := d1_at (c := 355) (by omega)
      have as : d1 (y + 1 + 1) = 7 * W + (738) := d1_at (c := 738) (by omega)
      have v : d2 y = 0 := e1.2.2 (by omega) (by omega)
      have u : d2 (y + 1) = 0 := e2.2.2 (by omega) (by omega)
      rw [show gC 49189 146004 (25920 * 1 + r) = (0, 355) by unfold gC; rw [if_neg (show ¬ (25920 * 1 + r < 16404) by omega), if_pos (show 25920 * 1 + r < 49189 by omega)]]
      constructor <;> dsimp only <;> omega
    · have am : d1 (y - 1) = 7 * W + (-384) := d1_at (c := -384) (by omega)
      have a0 : d1 (y) = 7 * W + (0) := d1_at (c := 0) (by omega)
      have an : d1 (y + 1) = 7 * W + (355) := d1_at (c := 355) (by omega)
      have as : d1 (y + 1 + 1) = 7 * W + (740) := d1_at (c := 739) (by omega)
      have v : d2 y = 0 := e1.2.2 (by omega) (by omega)
      have u : d2 (y + 1) = 0 := e2.2.2 (by omega) (by omega)
      rw [show gC 49189 146004 (25920 * 1 + r) = (0, 355) by unfold gC; rw [if_neg (show ¬ (25920 * 1 + r < 16404) by omega), if_pos (show 25920 * 1 + r < 49189 by omega)]]
      constructor <;> dsimp only <;> omega
    · have am : d1 (y - 1) = 7 * W + (-382) := d1_at (c := -383) (by omega)
      have a0 : d1 (y) = 7 * W + (0) := d1_at (c := 0) (by omega)
      have an : d1 (y + 1) = 7 * W + (355) := d1_at (c := 355) (by omega)
      have as : d1 (y + 1 + 1) = 7 * W + (740) := d1_at (c := 739) (by omega)
      have v : d2 y = 1 := e1.2.1 (by omega) (by omega)
      have u : d2 (y + 1) = 0 := e2.2.2 (by omega) (by omega)
      rw [show gC 49189 146004 (25920 * 1 + r) = (1, 354) by unfold gC; rw [if_neg (show ¬ (25920 * 1 + r < 16404) by omega), if_neg (show ¬ (25920 * 1 + r < 49189) by omega), if_pos (show 25920 * 1 + r < 68244 by omega)]]
      constructor <;> dsimp only <;> omega
  · rcases (show (0 ≤ r ∧ r < 16404) ∨ (16404 ≤ r ∧ r < 19055) ∨ (19055 ≤ r ∧ r < 23269) ∨ (23269 ≤ r ∧ r < 25920) by omega) with hr | hr | hr | hr
    · have am : d1 (y - 1) = 7 * W + (-382) := d1_at (c := -383) (by omega)
      have a0 : d1 (y) = 7 * W + (1) := d1_at (c := 1) (by omega)
      have an : d1 (y + 1) = 7 * W + (355) := d1_at (c := 355) (by omega)
      have as : d1 (y + 1 + 1) = 7 * W + (740) := d1_at (c := 739) (by omega)
      have v : d2 y = 0 := e1.2.2 (by omega) (by omega)
      have u : d2 (y + 1) = 0 := e2.2.2 (by omega) (by omega)
      rw [show gC 49189 146004 (25920 * 2 + r) = (1, 354) by unfold gC; rw [if_neg (show ¬ (25920 * 2 + r < 16404) by omega), if_neg (show ¬ (25920 * 2 + r < 49189) by omega), if_pos (show 25920 * 2 + r < 68244 by omega)]]
      constructor <;> dsimp only <;> omega
    · have am : d1 (y - 1) = 7 * W + (-382) := d1_at (c := -383) (by omega)
      have a0 : d1 (y) = 7 * W + (1) := d1_at (c := 1) (by omega)
      have an : d1 (y + 1) = 7 * W + (357) := d1_at (c := 356) (by omega)
      have as : d1 (y + 1 + 1) = 7 * W + (740) := d1_at (c := 739) (by omega)
      have v : d2 y = 2 := e1.1 (by omega)
      have u : d2 (y + 1) = 0 := e2.2.2 (by omega) (by omega)
      rw [show gC 49189 146004 (25920 * 2 + r) = (3, 354) by unfold gC; rw [if_neg (show ¬ (25920 * 2 + r < 16404) by omega), if_neg (show ¬ (25920 * 2 + r < 49189) by omega), if_neg (show ¬ (25920 * 2 + r < 68244) by omega), if_pos (show 25920 * 2 + r < 120084 by omega)]]
      constructor <;> dsimp only <;> omega
    · have am : d1 (y - 1) = 7 * W + (-382) := d1_at (c := -383) (by omega)
      have a0 : d1 (y) = 7 * W + (1) := d1_at (c := 1) (by omega)
      have an : d1 (y + 1) = 7 * W + (357) := d1_at (c := 356) (by omega)
      have as : d1 (y + 1 + 1) = 7 * W + (740) := d1_at (c := 740) (by omega)
      have v : d2 y = 2 := e1.1 (by omega)
      have u : d2 (y + 1) = 0 := e2.2.2 (by omega) (by omega)
      rw [show gC 49189 146004 (25920 * 2 + r) = (3, 354) by unfold gC; rw [if_neg (show ¬ (25920 * 2 + r < 16404) by omega), if_neg (show ¬ (25920 * 2 + r < 49189) by omega), if_neg (show ¬ (25920 * 2 + r < 68244) by omega), if_pos (show 25920 * 2 + r < 120084 by omega)]]
      constructor <;> dsimp only <;> omega
    · have am : d1 (y - 1) = 7 * W + (-382) := d1_at (c := -382) (by omega)
      have a0 : d1 (y) = 7 * W + (1) := d1_at (c := 1) (by omega)
      have an : d1 (y + 1) = 7 * W + (357) := d1_at (c := 356) (by omega)
      have as : d1 (y + 1 + 1) = 7 * W + (740) := d1_at (c := 740) (by omega)
      have v : d2 y = 2 := e1.1 (by omega)
      have u : d2 (y + 1) = 0 := e2.2.2 (by omega) (by omega)
      rw [show gC 49189 146004 (25920 * 2 + r) = (3, 354) by unfold gC; rw [if_neg (show ¬ (25920 * 2 + r < 16404) by omega), if_neg (show ¬ (25920 * 2 + r < 49189) by omega), if_neg (show ¬ (25920 * 2 + r < 68244) by omega), if_pos (show 25920 * 2 + r < 120084 by omega)]]
      constructor <;> dsimp only <;> omega
  · rcases (show (0 ≤ r ∧ r < 16404) ∨ (16404 ≤ r ∧ r < 19055) ∨ (19055 ≤ r ∧ r < 23269) ∨ (23269 ≤ r ∧ r < 25920) by omega) with hr | hr | hr | hr
    · have am : d1 (y - 1) = 7 * W + (-382) := d1_at (c := -382) (by omega)
      have a0 : d1 (y) = 7 * W + (3) := d1_at (c := 2) (by omega)
      have an : d1 (y + 1) = 7 * W + (357) := d1_at (c := 356) (by omega)
      have as : d1 (y + 1 + 1) = 7 * W + (740) := d1_at (c := 740) (by omega)
      have v : d2 y = 0 := e1.2.2 (by omega) (by omega)
      have u : d2 (y + 1) = 0 := e2.2.2 (by omega) (by omega)
      rw [show gC 49189 146004 (25920 * 3 + r) = (3, 354) by unfold gC; rw [if_neg (show ¬ (25920 * 3 + r < 16404) by omega), if_neg (show ¬ (25920 * 3 + r < 49189) by omega), if_neg (show ¬ (25920 * 3 + r < 68244) by omega), if_pos (show 25920 * 3 + r < 120084 by omega)]]
      constructor <;> dsimp only <;> omega
    · have am : d1 (y - 1) = 7 * W + (-382) := d1_at (c := -382) (by omega)
      have a0 : d1 (y) = 7 * W + (3) := d1_at (c := 2) (by omega)
      have an : d1 (y + 1) = 7 * W + (357) := d1_at (c := 357) (by omega)
      have as : d1 (y + 1 + 1) = 7 * W + (740) := d1_at (c := 740) (by omega)
      have v : d2 y = 0 := e1.2.2 (by omega) (by omega)
      have u : d2 (y + 1) = 0 := e2.2.2 (by omega) (by omega)
      rw [show gC 49189 146004 (25920 * 3 + r) = (3, 354) by unfold gC; rw [if_neg (show ¬ (25920 * 3 + r < 16404) by omega), if_neg (show ¬ (25920 * 3 + r < 49189) by omega), if_neg (show ¬ (25920 * 3 + r < 68244) by omega), if_pos (show 25920 * 3 + r < 120084 by omega)]]
      constructor <;> dsimp only <;> omega
    · have am : d1 (y - 1) = 7 * W + (-382) := d1_at (c := -382) (by omega)
      have a0 : d1 (y) = 7 * W + (3) := d1_at (c := 2) (by omega)
      have an : d1 (y + 1) = 7 * W + (357) := d1_at (c := 357) (by omega)
      have as : d1 (y + 1 + 1) = 7 * W + (742) := d1_at (c := 741) (by omega)
      have v : d2 y = 0 := e1.2.2 (by omega) (by omega)
      have u : d2 (y + 1) = 0 := e2.2.2 (by omega) (by omega)
      rw [show gC 49189 146004 (25920 * 3 + r) = (3, 354) by unfold gC; rw [if_neg (show ¬ (25920 * 3 + r < 16404) by omega), if_neg (show ¬ (25920 * 3 + r < 49189) by omega), if_neg (show ¬ (25920 * 3 + r < 68244) by omega), if_pos (show 25920 * 3 + r < 120084 by omega)]]
      constructor <;> dsimp only <;> omega
    · have am : d1 (y - 1) = 7 * W + (-380) := d1_at (c := -381) (by omega)
      have a0 : d1 (y) = 7 * W + (3) := d1_at (c := 2) (by omega)
      have an : d1 (y + 1) = 7 * W + (357) := d1_at (c := 357) (by omega)
      have as : d1 (y + 1 + 1) = 7 * W + (742) := d1_at (c := 741) (by omega)
      have v : d2 y = 0 := e1.2.2 (by omega) (by omega)
      have u : d2 (y + 1) = 0 := e2.2.2 (by omega) (by omega)
      rw [show gC 49189 146004 (25920 * 3 + r) = (3, 354) by unfold gC; rw [if_neg (show ¬ (25920 * 3 + r < 16404) by omega), if_neg (show ¬ (25920 * 3 + r < 49189) by omega), if_neg (show ¬ (25920 * 3 + r < 68244) by omega), if_pos (show 25920 * 3 + r < 120084 by omega)]]
      constructor <;> dsimp only <;> omega
  · rcases (show (0 ≤ r ∧ r < 16404) ∨ (16404 ≤ r ∧ r < 19055) ∨ (19055 ≤ r ∧ r < 23269) ∨ (23269 ≤ r ∧ r < 25920) by omega) with hr | hr | hr | hr
    · have am : d1 (y - 1) = 7 * W + (-380) := d1_at (c := -381) (by omega)
      have a0 : d1 (y) = 7 * W + (3) := d1_at (c := 3) (by omega)
      have an : d1 (y + 1) = 7 * W + (357) := d1_at (c := 357) (by omega)
      have as : d1 (y + 1 + 1) = 7 * W + (742) := d1_at (c := 741) (by omega)
      have v : d2 y = 0 := e1.2.2 (by omega) (by omega)
      have u : d2 (y + 1) = 0 := e2.2.2 (by omega) (by omega)
      rw [show gC 49189 146004 (25920 * 4 + r) = (3, 354) by unfold gC; rw [if_neg (show ¬ (25920 * 4 + r < 16404) by omega), if_neg (show ¬ (25920 * 4 + r < 49189) by omega), if_neg (show ¬ (25920 * 4 + r < 68244) by omega), if_pos (show 25920 * 4 + r < 120084 by omega)]]
      constructor <;> dsimp only <;> omega
    · have am : d1 (y - 1) = 7 * W + (-380) := d1_at (c := -381) (by omega)
      have a0 : d1 (y) = 7 * W + (3) := d1_at (c := 3) (by omega)
      have an : d1 (y + 1) = 7 * W + (358) := d1_at (c := 358) (by omega)
      have as : d1 (y + 1 + 1) = 7 * W + (742) := d1_at (c := 741) (by omega)
      have v : d2 y = 0 := e1.2.2 (by omega) (by omega)
      have u : d2 (y + 1) = 0 := e2.2.2 (by omega) (by omega)
      rw [show gC 49189 146004 (25920 * 4 + r) = (3, 355) by unfold gC; rw [if_neg (show ¬ (25920 * 4 + r < 16404) by omega), if_neg (show ¬ (25920 * 4 + r < 49189) by omega), if_neg (show ¬ (25920 * 4 + r < 68244) by omega), if_neg (show ¬ (25920 * 4 + r < 120084) by omega), if_pos (show 25920 * 4 + r < 129600 by omega)]]
      constructor <;> dsimp only <;> omega
    · have am : d1 (y - 1) = 7 * W + (-380) := d1_at (c := -381) (by omega)
      have a0 : d1 (y) = 7 * W + (3) := d1_at (c := 3) (by omega)
      have an : d1 (y + 1) = 7 * W + (358) := d1_at (c := 358) (by omega)
      have as : d1 (y + 1 + 1) = 7 * W + (742) := d1_at (c := 742) (by omega)
      have v : d2 y = 0 := e1.2.2 (by omega) (by omega)
      have u : d2 (y + 1) = 0 := e2.2.2 (by omega) (by omega)
      rw [show gC 49189 146004 (25920 * 4 + r) = (3, 355) by unfold gC; rw [if_neg (show ¬ (25920 * 4 + r < 16404) by omega), if_neg (show ¬ (25920 * 4 + r < 49189) by omega), if_neg (show ¬ (25920 * 4 + r < 68244) by omega), if_neg (show ¬ (25920 * 4 + r < 120084) by omega), if_pos (show 25920 * 4 + r < 129600 by omega)]]
      constructor <;> dsimp only <;> omega
    · have am : d1 (y - 1) = 7 * W + (-380) := d1_at (c := -380) (by omega)
      have a0 : d1 (y) = 7 * W + (3) := d1_at (c := 3) (by omega)
      have an : d1 (y + 1) = 7 * W + (358) := d1_at (c := 358) (by omega)
      have as : d1 (y + 1 + 1) = 7 * W + (742) := d1_at (c := 742) (by omega)
      have v : d2 y = 0 := e1.2.2 (by omega) (by omega)
      have u : d2 (y + 1) = 0 := e2.2.2 (by omega) (by omega)
      rw [show gC 49189 146004 (25920 * 4 + r) = (3, 355) by unfold gC; rw [if_neg (show ¬ (25920 * 4 + r < 16404) by omega), if_neg (show ¬ (25920 * 4 + r < 49189) by omega), if_neg (show ¬ (25920 * 4 + r < 68244) by omega), if_neg (show ¬ (25920 * 4 + r < 120084) by omega), if_pos (show 25920 * 4 + r < 129600 by omega)]]
      constructor <;> dsimp only <;> omega
  · rcases (show (0 ≤ r ∧ r < 16404) ∨ (16404 ≤ r ∧ r < 19055) ∨ (19055 ≤ r ∧ r < 23269) ∨ (23269 ≤ r ∧ r < 25920) by omega) with hr | hr | hr | hr
    · have am : d1 (y - 1) = 7 * W + (-380) := d1_at (c := -380) (by omega)
      have a0 : d1 (y) = 7 * W + (5) := d1_at (c := 4) (by omega)
      have an : d1 (y + 1) = 7 * W + (358) := d1_at (c := 358) (by omega)
      have as : d1 (y + 1 + 1) = 7 * W + (742) := d1_at (c := 742) (by omega)
      have v : d2 y = 0 := e1.2.2 (by omega) (by omega)
      have u : d2 (y + 1) = 0 := e2.2.2 (by omega) (by omega)
      rw [show gC 49189 146004 (25920 * 5 + r) = (5, 353) by unfold gC; rw [if_neg (show ¬ (25920 * 5 + r < 16404) by omega), if_neg (show ¬ (25920 * 5 + r < 49189) by omega), if_neg (show ¬ (25920 * 5 + r < 68244) by omega), if_neg (show ¬ (25920 * 5 + r < 120084) by omega), if_neg (show ¬ (25920 * 5 + r < 129600) by omega), if_pos (show 25920 * 5 + r < 146004 by omega)]]
      constructor <;> dsimp only <;> omega
    · have am : d1 (y - 1) = 7 * W + (-380) := d1_at (c := -380) (by omega)
      have a0 : d1 (y) = 7 * W + (5) := d1_at (c := 4) (by omega)
      have an : d1 (y + 1) = 7 * W + (360) := d1_at (c := 359) (by omega)
      have as : d1 (y + 1 + 1) = 7 * W + (742) := d1_at (c := 742) (by omega)
      have v : d2 y = 0 := e1.2.2 (by omega) (by omega)
      have u : d2 (y + 1) = 0 := e2.2.2 (by omega) (by omega)
      rw [show gC 49189 146004 (25920 * 5 + r) = (5, 355) by unfold gC; rw [if_neg (show ¬ (25920 * 5 + r < 16404) by omega), if_neg (show ¬ (25920 * 5 + r < 49189) by omega), if_neg (show ¬ (25920 * 5 + r < 68244) by omega), if_neg (show ¬ (25920 * 5 + r < 120084) by omega), if_neg (show ¬ (25920 * 5 + r < 129600) by omega), if_neg (show ¬ (25920 * 5 + r < 146004) by omega)]]
      constructor <;> dsimp only <;> omega
    · have am : d1 (y - 1) = 7 * W + (-380) := d1_at (c := -380) (by omega)
      have a0 : d1 (y) = 7 * W + (5) := d1_at (c := 4) (by omega)
      have an : d1 (y + 1) = 7 * W + (360) := d1_at (c := 359) (by omega)
      have as : d1 (y + 1 + 1) = 7 * W + (743) := d1_at (c := 743) (by omega)
      have v : d2 y = 0 := e1.2.2 (by omega) (by omega)
      have u : d2 (y + 1) = 0 := e2.2.2 (by omega) (by omega)
      rw [show gC 49189 146004 (25920 * 5 + r) = (5, 355) by unfold gC; rw [if_neg (show ¬ (25920 * 5 + r < 16404) by omega), if_neg (show ¬ (25920 * 5 + r < 49189) by omega), if_neg (show ¬ (25920 * 5 + r < 68244) by omega), if_neg (show ¬ (25920 * 5 + r < 120084) by omega), if_neg (show ¬ (25920 * 5 + r < 129600) by omega), if_neg (show ¬ (25920 * 5 + r < 146004) by omega)]]
      constructor <;> dsimp only <;> omega
    · have am : d1 (y - 1) = 7 * W + (-378) := d1_at (c := -379) (by omega)
      have a0 : d1 (y) = 7 * W + (5) := d1_at (c := 4) (by omega)
      have an : d1 (y + 1) = 7 * W + (360) := d1_at (c := 359) (by omega)
      have as : d1 (y + 1 + 1) = 7 * W + (743) := d1_at (c := 743) (by omega)
      have v : d2 y = 0 := e1.2.2 (by omega) (by omega)
      have u : d2 (y + 1) = 0 := e2.2.2 (by omega) (by omega)
      rw [show gC 49189 146004 (25920 * 5 + r) = (5, 355) by unfold gC; rw [if_neg (show ¬ (25920 * 5 + r < 16404) by omega), if_neg (show ¬ (25920 * 5 + r < 49189) by omega), if_neg (show ¬ (25920 * 5 + r < 68244) by omega), if_neg (show ¬ (25920 * 5 + r < 120084) by omega), if_neg (show ¬ (25920 * 5 + r < 129600) by omega), if_neg (show ¬ (25920 * 5 + r < 146004) by omega)]]
      constructor <;> dsimp only <;> omega
  · rcases (show (0 ≤ r ∧ r < 16404) ∨ (16404 ≤ r ∧ r < 19055) ∨ (19055 ≤ r ∧ r < 23269) ∨ (23269 ≤ r ∧ r < 25920) by omega) with hr | hr | hr | hr
    · have am : d1 (y - 1) = 7 * W + (-378) := d1_at (c := -379) (by omega)
      have a0 : d1 (y) = 7 * W + (5) := d1_at (c := 5) (by omega)
      have an : d1 (y + 1) = 7 * W + (360) := d1_at (c := 359) (by omega)
      have as : d1 (y + 1 + 1) = 7 * W + (743) := d1_at (c := 743) (by omega)
      have v : d2 y = 0 := e1.2.2 (by omega) (by omega)
      have u : d2 (y + 1) = 0 := e2.2.2 (by omega) (by omega)
      rw [show gC 49189 146004 (25920 * 6 + r) = (5, 355) by unfold gC; rw [if_neg (show ¬ (25920 * 6 + r < 16404) by omega), if_neg (show ¬ (25920 * 6 + r < 49189) by omega), if_neg (show ¬ (25920 * 6 + r < 68244) by omega), if_neg (show ¬ (25920 * 6 + r < 120084) by omega), if_neg (show ¬ (25920 * 6 + r < 129600) by omega), if_neg (show ¬ (25920 * 6 + r < 146004) by omega)]]
      constructor <;> dsimp only <;> omega
    · have am : d1 (y - 1) = 7 * W + (-378) := d1_at (c := -379) (by omega)
      have a0 : d1 (y) = 7 * W + (5) := d1_at (c := 5) (by omega)
      have an : d1 (y + 1) = 7 * W + (360) := d1_at (c := 360) (by omega)
      have as : d1 (y + 1 + 1) = 7 * W + (743) := d1_at (c := 743) (by omega)
      have v : d2 y = 0 := e1.2.2 (by omega) (by omega)
      have u : d2 (y + 1) = 0 := e2.2.2 (by omega) (by omega)
      rw [show gC 49189 146004 (25920 * 6 + r) = (5, 355) by unfold gC; rw [if_neg (show ¬ (25920 * 6 + r < 16404) by omega), if_neg (show ¬ (25920 * 6 + r < 49189) by omega), if_neg (show ¬ (25920 * 6 + r < 68244) by omega), if_neg (show ¬ (25920 * 6 + r < 120084) by omega), if_neg (show ¬ (25920 * 6 + r < 129600) by omega), if_neg (show ¬ (25920 * 6 + r < 146004) by omega)]]
      constructor <;> dsimp only <;> omega
    · have am : d1 (y - 1) = 7 * W + (-378) := d1_at (c := -379) (by omega)
      have a0 : d1 (y) = 7 * W + (5) := d1_at (c := 5) (by omega)
      have an : d1 (y + 1) = 7 * W + (360) := d1_at (c := 360) (by omega)
      have as : d1 (y + 1 + 1) = 7 * W + (745) := d1_at (c := 744) (by omega)
      have v : d2 y = 0 := e1.2.2 (by omega) (by omega)
      have u : d2 (y + 1) = 0 := e2.2.2 (by omega) (by omega)
      rw [show gC 49189 146004 (25920 * 6 + r) = (5, 355) by unfold gC; rw [if_neg (show ¬ (25920 * 6 + r < 16404) by omega), if_neg (show ¬ (25920 * 6 + r < 49189) by omega), if_neg (show ¬ (25920 * 6 + r < 68244) by omega), if_neg (show ¬ (25920 * 6 + r < 120084) by omega), if_neg (show ¬ (25920 * 6 + r < 129600) by omega), if_neg (show ¬ (25920 * 6 + r < 146004) by omega)]]
      constructor <;> dsimp only <;> omega
    · have am : d1 (y - 1) = 7 * W + (-378) := d1_at (c := -378) (by omega)
      have a0 : d1 (y) = 7 * W + (5) := d1_at (c := 5) (by omega)
      have an : d1 (y + 1) = 7 * W + (360) := d1_at (c := 360) (by omega)
      have as : d1 (y + 1 + 1) = 7 * W + (745) := d1_at (c := 744) (by omega)
      have v : d2 y = 0 := e1.2.2 (by omega) (by omega)
      have u : d2 (y + 1) = 0 := e2.2.2 (by omega) (by omega)
      rw [show gC 49189 146004 (25920 * 6 + r) = (5, 355) by unfold gC; rw [if_neg (show ¬ (25920 * 6 + r < 16404) by omega), if_neg (show ¬ (25920 * 6 + r < 49189) by omega), if_neg (show ¬ (25920 * 6 + r < 68244) by omega), if_neg (show ¬ (25920 * 6 + r < 120084) by omega), if_neg (show ¬ (25920 * 6 + r < 129600) by omega), if_neg (show ¬ (25920 * 6 + r < 146004) by omega)]]
      constructor <;> dsimp only <;> omega
set_option maxHeartbeats 4000000 in
theorem m_behind {y W w r : Int} (hp : pt y = 25920 * (7 * W + w - 1) + r) (h0 : 0 ≤ r) (h1 : r < 25920) (h : w = 0 ∨ w = 1 ∨ w = 2 ∨ w = 3 ∨ w = 4 ∨ w = 5 ∨ w = 6) (hm : pt (y - 1) = pt y - 9950629) (hn : pt (y + 1) = pt y + 9185196) (hs : pt (y + 1 + 1) = pt y + 18370392) :
    d1 y + d2 y = 7 * W + (gC 49189 136488 (25920 * w + r)).1 ∧ yl y = (gC 49189 136488 (25920 * w + r)).2 := by
  have e1 := d2_facts y
  have e2 := d2_facts (y + 1)
  rw [Int.add_sub_cancel] at e2
  unfold yl ny
  rcases h with rfl | rfl | rfl | rfl | rfl | rfl | rfl
  · rcases (show (0 ≤ r ∧ r < 6888) ∨ (6888 ≤ r ∧ r < 16404) ∨ (16404 ≤ r ∧ r < 23269) ∨ (23269 ≤ r ∧ r < 25920) by omega) with hr | hr | hr | hr
    · have am : d1 (y - 1) = 7 * W + (-385) := d1_at (c := -385) (by omega)
      have a0 : d1 (y) = 7 * W + (0) := d1_at (c := -1) (by omega)
      have an : d1 (y + 1) = 7 * W + (353) := d1_at (c := 353) (by omega)
      have as : d1 (y + 1 + 1) = 7 * W + (707) := d1_at (c := 707) (by omega)
      have v : d2 y = 0 := e1.2.2 (by omega) (by omega)
      have u : d2 (y + 1) = 0 := e2.2.2 (by omega) (by omega)
      rw [show gC 49189 136488 (25920 * 0 + r) = (0, 353) by unfold gC; rw [if_pos (show 25920 * 0 + r < 16404 by omega)]]
      constructor <;> dsimp only <;> omega
    · have am : d1 (y - 1) = 7 * W + (-385) := d1_at (c := -385) (by omega)
      have a0 : d1 (y) = 7 * W + (0) := d1_at (c := -1) (by omega)
      have an : d1 (y + 1) = 7 * W + (353) := d1_at (c := 353) (by omega)
      have as : d1 (y + 1 + 1) = 7 * W + (708) := d1_at (c := 708) (by omega)
      have v : d2 y = 0 := e1.2.2 (by omega) (by omega)
      have u : d2 (y + 1) = 0 := e2.2.2 (by omega) (by omega)
      rw [show gC 49189 136488 (25920 * 0 + r) = (0, 353) by unfold gC; rw [if_pos (show 25920 * 0 + r < 16404 by omega)]]
      constructor <;> dsimp only <;> omega
    · have am : d1 (y - 1) = 7 * W + (-385) := d1_at (c := -385) (by omega)
      have a0 : d1 (y) = 7 * W + (0) := d1_at (c := -1) (by omega)
      have an : d1 (y + 1) = 7 * W + (355) := d1_at (c := 354) (by omega)
      have as : d1 (y + 1 + 1) = 7 * W + (708) := d1_at (c := 708) (by omega)
      have v : d2 y = 0 := e1.2.2 (by omega) (by omega)
      have u : d2 (y + 1) = 0 := e2.2.2 (by omega) (by omega)
      rw [show gC 49189 136488 (25920 * 0 + r) = (0, 355) by unfold gC; rw [if_neg (show ¬ (25920 * 0 + r < 16404) by omega), if_pos (show 25920 * 0 + r < 49189 by omega)]]
      constructor <;> dsimp only <;> omega
    · have am : d1 (y - 1) = 7 * W + (-384) := d1_at (c := -384) (by omega)
      have a0 : d1 (y) = 7 * W + (0) := d1_at (c := -1) (by omega)
      have an : d1 (y + 1) = 7 * W + (355) := d1_at (c := 354) (by omega)
      have as : d1 (y + 1 + 1) = 7 * W + (708) := d1_at (c := 708) (by omega)
      have v : d2 y = 0 := e1.2.2 (by omega) (by omega)
      have u : d2 (y + 1) = 0 := e2.2.2 (by omega) (by omega)
      rw [show gC 49189 136488 (25920 * 0 + r) = (0, 355) by unfold gC; rw [if_neg (show ¬ (25920 * 0 + r < 16404) by omega), if_pos (show 25920 * 0 + r < 49189 by omega)]]
      constructor <;> dsimp only <;> omega
  · rcases (show (0 ≤ r ∧ r < 6888) ∨ (6888 ≤ r ∧ r < 16404) ∨ (16404 ≤ r ∧ r < 23269) ∨ (23269 ≤ r ∧ r < 25920) by omega) with hr | hr | hr | hr
    · have am : d1 (y - 1) = 7 * W + (-384) := d1_at (c := -384) (by omega)
      have a0 : d1 (y) = 7 * W + (0) := d1_at (c := 0) (by omega)
      have an : d1 (y + 1) = 7 * W + (355) := d1_at (c := 354) (by omega)
      have as : d1 (y + 1 + 1) = 7 * W + (708) := d1_at (c := 708) (by omega)
      have v : d2 y = 0 := e1.2.2 (by omega) (by omega)
      have u : d2 (y + 1) = 0 := e2.2.2 (by omega) (by omega)
      rw [show gC 49189 136488 (25920 * 1 + r) = (0, 355) by unfold gC; rw [if_neg (show ¬ (25920 * 1 + r < 16404) by omega), if_pos (show 25920 * 1 + r < 49189 by omega)]]
      constructor <;> dsimp only <;> omega
    · have am : d1 (y - 1) = 7 * W + (-384) := d1_at (c := -384) (by omega)
      have a0 : d1 (y) = 7 * W + (0) := d1_at (c := 0) (by omega)
      have an : d1 (y + 1) = 7 * W + (355) := d1_at (c := 354) (by omega)
      have as : d1 (y + 1 + 1) = 7 * W + (710) := d1_at (c := 709) (by omega)
      have v : d2 y = 0 := e1.2.2 (by omega) (by omega)
      have u : d2 (y + 1) = 0 := e2.2.2 (by omega) (by omega)
      rw [show gC 49189 136488 (25920 * 1 + r) = (0, 355) by unfold gC; rw [if_neg (show ¬ (25920 * 1 + r < 16404) by omega), if_pos (show 25920 * 1 + r < 49189 by omega)]]
      constructor <;> dsimp only <;> omega
    · have am : d1 (y - 1) = 7 * W + (-384) := d1_at (c := -384) (by omega)
      have a0 : d1 (y) = 7 * W + (0) := d1_at (c := 0) (by omega)
      have an : d1 (y + 1) = 7 * W + (355) := d1_at (c := 355) (by omega)
      have as : d1 (y + 1 + 1) = 7 * W + (710) := d1_at (c := 709) (by omega)
      have v : d2 y = 0 := e1.2.2 (by omega) (by omega)
      have u : d2 (y + 1) = 0 := e2.2.2 (by omega) (by omega)
      rw [show gC 49189 136488 (25920 * 1 + r) = (0, 355) by unfold gC; rw [if_neg (show ¬ (25920 * 1 + r < 16404) by omega), if_pos (show 25920 * 1 + r < 49189 by omega)]]
      constructor <;> dsimp only <;> omega
    · have am : d1 (y - 1) = 7 * W + (-382) := d1_at (c := -383) (by omega)
      have a0 : d1 (y) = 7 * W + (0) := d1_at (c := 0) (by omega)
      have an : d1 (y + 1) = 7 * W + (355) := d1_at (c := 355) (by omega)
      have as : d1 (y + 1 + 1) = 7 * W + (710) := d1_at (c := 709) (by omega)
      have v : d2 y = 1 := e1.2.1 (by omega) (by omega)
      have u : d2 (y + 1) = 0 := e2.2.2 (by omega) (by omega)
      rw [show gC 49189 136488 (25920 * 1 + r) = (1, 354) by unfold gC; rw [if_neg (show ¬ (25920 * 1 + r < 16404) by omega), if_neg (show ¬ (25920 * 1 + r < 49189) by omega), if_pos (show 25920 * 1 + r < 68244 by omega)]]
      constructor <;> dsimp only <;> omega
  · rcases (show (0 ≤ r ∧ r < 6888) ∨ (6888 ≤ r ∧ r < 16404) ∨ (16404 ≤ r ∧ r < 23269) ∨ (23269 ≤ r ∧ r < 25920) by omega) with hr | hr | hr | hr
    · have am : d1 (y - 1) = 7 * W + (-382) := d1_at (c := -383) (by omega)
      have a0 : d1 (y) = 7 * W + (1) := d1_at (c := 1) (by omega)
      have an : d1 (y + 1) = 7 * W + (355) := d1_at (c := 355) (by omega)
      have as : d1 (y + 1 + 1) = 7 * W + (710) := d1_at (c := 709) (by omega)
      have v : d2 y = 0 := e1.2.2 (by omega) (by omega)
      have u : d2 (y + 1) = 0 := e2.2.2 (by omega) (by omega)
      rw [show gC 49189 136488 (25920 * 2 + r) = (1, 354) by unfold gC; rw [if_neg (show ¬ (25920 * 2 + r < 16404) by omega), if_neg (show ¬ (25920 * 2 + r < 49189) by omega), if_pos (show 25920 * 2 + r < 68244 by omega)]]
      constructor <;> dsimp only <;> omega
    · have am : d1 (y - 1) = 7 * W + (-382) := d1_at (c := -383) (by omega)
      have a0 : d1 (y) = 7 * W + (1) := d1_at (c := 1) (by omega)
      have an : d1 (y + 1) = 7 * W + (355) := d1_at (c := 355) (by omega)
      have as : d1 (y + 1 + 1) = 7 * W + (710) := d1_at (c := 710) (by omega)
      have v : d2 y = 0 := e1.2.2 (by omega) (by omega)
      have u : d2 (y + 1) = 0 := e2.2.2 (by omega) (by omega)
      rw [show gC 49189 136488 (25920 * 2 + r) = (1, 354) by unfold gC; rw [if_neg (show ¬ (25920 * 2 + r < 16404) by omega), if_neg (show ¬ (25920 * 2 + r < 49189) by omega), if_pos (show 25920 * 2 + r < 68244 by omega)]]
      constructor <;> dsimp only <;> omega
    · have am : d1 (y - 1) = 7 * W + (-382) := d1_at (c := -383) (by omega)
      have a0 : d1 (y) = 7 * W + (1) := d1_at (c := 1) (by omega)
      have an : d1 (y + 1) = 7 * W + (357) := d1_at (c := 356) (by omega)
      have as : d1 (y + 1 + 1) = 7 * W + (710) := d1_at (c := 710) (by omega)
      have v : d2 y = 2 := e1.1 (by omega)
      have u : d2 (y + 1) = 0 := e2.2.2 (by omega) (by omega)
      rw [show gC 49189 136488 (25920 * 2 + r) = (3, 354) by unfold gC; rw [if_neg (show ¬ (25920 * 2 + r < 16404) by omega), if_neg (show ¬ (25920 * 2 + r < 49189) by omega), if_neg (show ¬ (25920 * 2 + r < 68244) by omega), if_pos (show 25920 * 2 + r < 120084 by omega)]]
      constructor <;> dsimp only <;> omega
    · have am : d1 (y - 1) = 7 * W + (-382) := d1_at (c := -382) (by omega)
      have a0 : d1 (y) = 7 * W + (1) := d1_at (c := 1) (by omega)
      have an : d1 (y + 1) = 7 * W + (357) := d1_at (c := 356) (by omega)
      have as : d1 (y + 1 + 1) = 7 * W + (710) := d1_at (c := 710) (by omega)
      have v : d2 y = 2 := e1.1 (by omega)
      have u : d2 (y + 1) = 0 := e2.2.2 (by omega) (by omega)
      rw [show gC 49189 136488 (25920 * 2 + r) = (3, 354) by unfold gC; rw [if_neg (show ¬ (25920 * 2 + r < 16404) by omega), if_neg (show ¬ (25920 * 2 + r < 49189) by omega), if_neg (show ¬ (25920 * 2 + r < 68244) by omega), if_pos (show 25920 * 2 + r < 120084 by omega)]]
      constructor <;> dsimp only <;> omega
  · rcases (show (0 ≤ r ∧ r < 6888) ∨ (6888 ≤ r ∧ r < 16404) ∨ (16404 ≤ r ∧ r < 23269) ∨ (23269 ≤ r ∧ r < 25920) by omega) with hr | hr | hr | hr
    · have am : d1 (y - 1) = 7 * W + (-382) := d1_at (c := -382) (by omega)
      have a0 : d1 (y) = 7 * W + (3) := d1_at (c := 2) (by omega)
      have an : d1 (y + 1) = 7 * W + (357) := d1_at (c := 356) (by omega)
      have as : d1 (y + 1 + 1) = 7 * W + (710) := d1_at (c := 710) (by omega)
      have v : d2 y = 0 := e1.2.2 (by omega) (by omega)
      have u : d2 (y + 1) = 0 := e2.2.2 (by omega) (by omega)
      rw [show gC 49189 136488 (25920 * 3 + r) = (3, 354) by unfold gC; rw [if_neg (show ¬ (25920 * 3 + r < 16404) by omega), if_neg (show ¬ (25920 * 3 + r < 49189) by omega), if_neg (show ¬ (25920 * 3 + r < 68244) by omega), if_pos (show 25920 * 3 + r < 120084 by omega)]]
      constructor <;> dsimp only <;> omega
    · have am : d1 (y - 1) = 7 * W + (-382) := d1_at (c := -382) (by omega)
      have a0 : d1 (y) = 7 * W + (3) := d1_at (c := 2) (by omega)
      have an : d1 (y + 1) = 7 * W + (357) := d1_at (c := 356) (by omega)
      have as : d1 (y + 1 + 1) = 7 * W + (712) := d1_at (c := 711) (by omega)
      have v : d2 y = 0 := e1.2.2 (by omega) (by omega)
      have u : d2 (y + 1) = 0 := e2.2.2 (by omega) (by omega)
      rw [show gC 49189 136488 (25920 * 3 + r) = (3, 354) by unfold gC; rw [if_neg (show ¬ (25920 * 3 + r < 16404) by omega), if_neg (show ¬ (25920 * 3 + r < 49189) by omega), if_neg (show ¬ (25920 * 3 + r < 68244) by omega), if_pos (show 25920 * 3 + r < 120084 by omega)]]
      constructor <;> dsimp only <;> omega
    · have am : d1 (y - 1) = 7 * W + (-382) := d1_at (c := -382) (by omega)
      have a0 : d1 (y) = 7 * W + (3) := d1_at (c := 2) (by omega)
      have an : d1 (y + 1) = 7 * W + (357) := d1_at (c := 357) (by omega)
      have as : d1 (y + 1 + 1) = 7 * W + (712) := d1_at (c := 711) (by omega)
      have v : d2 y = 0 := e1.2.2 (by omega) (by omega)
      have u : d2 (y + 1) = 0 := e2.2.2 (by omega) (by omega)
      rw [show gC 49189 136488 (25920 * 3 + r) = (3, 354) by unfold gC; rw [if_neg (show ¬ (25920 * 3 + r < 16404) by omega), if_neg (show ¬ (25920 * 3 + r < 49189) by omega), if_neg (show ¬ (25920 * 3 + r < 68244) by omega), if_pos (show 25920 * 3 + r < 120084 by omega)]]
      constructor <;> dsimp only <;> omega
    · have am : d1 (y - 1) = 7 * W + (-380) := d1_at (c := -381) (by omega)
      have a0 : d1 (y) = 7 * W + (3) := d1_at (c := 2) (by omega)
      have an : d1 (y + 1) = 7 * W + (357) := d1_at (c := 357) (by omega)
      have as : d1 (y + 1 + 1) = 7 * W + (712) := d1_at (c := 711) (by omega)
      have v : d2 y = 0 := e1.2.2 (by omega) (by omega)
      have u : d2 (y + 1) = 0 := e2.2.2 (by omega) (by omega)
      rw [show gC 49189 136488 (25920 * 3 + r) = (3, 354) by unfold gC; rw [if_neg (show ¬ (25920 * 3 + r < 16404) by omega), if_neg (show ¬ (25920 * 3 + r < 49189) by omega), if_neg (show ¬ (25920 * 3 + r < 68244) by omega), if_pos (show 25920 * 3 + r < 120084 by omega)]]
      constructor <;> dsimp only <;> omega
  · rcases (show (0 ≤ r ∧ r < 6888) ∨ (6888 ≤ r ∧ r < 16404) ∨ (16404 ≤ r ∧ r < 23269) ∨ (23269 ≤ r ∧ r < 25920) by omega) with hr | hr | hr | hr
    · have am : d1 (y - 1) = 7 * W + (-380) := d1_at (c := -381) (by omega)
      have a0 : d1 (y) = 7 * W + (3) := d1_at (c := 3) (by omega)
      have an : d1 (y + 1) = 7 * W + (357) := d1_at (c := 357) (by omega)
      have as : d1 (y + 1 + 1) = 7 * W + (712) := d1_at (c := 711) (by omega)
      have v : d2 y = 0 := e1.2.2 (by omega) (by omega)
      have u : d2 (y + 1) = 0 := e2.2.2 (by omega) (by omega)
      rw [show gC 49189 136488 (25920 * 4 + r) = (3, 354) by unfold gC; rw [if_neg (show ¬ (25920 * 4 + r < 16404) by omega), if_neg (show ¬ (25920 * 4 + r < 49189) by omega), if_neg (show ¬ (25920 * 4 + r < 68244) by omega), if_pos (show 25920 * 4 + r < 120084 by omega)]]
      constructor <;> dsimp only <;> omega
    · have am : d1 (y - 1) = 7 * W + (-380) := d1_at (c := -381) (by omega)
      have a0 : d1 (y) = 7 * W + (3) := d1_at (c := 3) (by omega)
      have an : d1 (y + 1) = 7 * W + (357) := d1_at (c := 357) (by omega)
      have as : d1 (y + 1 + 1) = 7 * W + (712) := d1_at (c := 712) (by omega)
      have v : d2 y = 0 := e1.2.2 (by omega) (by omega)
      have u : d2 (y + 1) = 0 := e2.2.2 (by omega) (by omega)
      rw [show gC 49189 136488 (25920 * 4 + r) = (3, 354) by unfold gC; rw [if_neg (show ¬ (25920 * 4 + r < 16404) by omega), if_neg (show ¬ (25920 * 4 + r < 49189) by omega), if_neg (show ¬ (25920 * 4 + r < 68244) by omega), if_pos (show 25920 * 4 + r < 120084 by omega)]]
      constructor <;> dsimp only <;> omega
    · have am : d1 (y - 1) = 7 * W + (-380) := d1_at (c := -381) (by omega)
      have a0 : d1 (y) = 7 * W + (3) := d1_at (c := 3) (by omega)
      have an : d1 (y + 1) = 7 * W + (358) := d1_at (c := 358) (by omega)
      have as : d1 (y + 1 + 1) = 7 * W + (712) := d1_at (c := 712) (by omega)
      have v : d2 y = 0 := e1.2.2 (by omega) (by omega)
      have u : d2 (y + 1) = 0 := e2.2.2 (by omega) (by omega)
      rw [show gC 49189 136488 (25920 * 4 + r) = (3, 355) by unfold gC; rw [if_neg (show ¬ (25920 * 4 + r < 16404) by omega), if_neg (show ¬ (25920 * 4 + r < 49189) by omega), if_neg (show ¬ (25920 * 4 + r < 68244) by omega), if_neg (show ¬ (25920 * 4 + r < 120084) by omega), if_pos (show 25920 * 4 + r < 129600 by omega)]]
      constructor <;> dsimp only <;> omega
    · have am : d1 (y - 1) = 7 * W + (-380) := d1_at (c := -380) (by omega)
      have a0 : d1 (y) = 7 * W + (3) := d1_at (c := 3) (by omega)
      have an : d1 (y + 1) = 7 * W + (358) := d1_at (c := 358) (by omega)
      have as : d1 (y + 1 + 1) = 7 * W + (712) := d1_at (c := 712) (by omega)
      have v : d2 y = 0 := e1.2.2 (by omega) (by omega)
      have u : d2 (y + 1) = 0 := e2.2.2 (by omega) (by omega)
      rw [show gC 49189 136488 (25920 * 4 + r) = (3, 355) by unfold gC; rw [if_neg (show ¬ (25920 * 4 + r < 16404) by omega), if_neg (show ¬ (25920 * 4 + r < 49189) by omega), if_neg (show ¬ (25920 * 4 + r < 68244) by omega), if_neg (show ¬ (25920 * 4 + r < 120084) by omega), if_pos (show 25920 * 4 + r < 129600 by omega)]]
      constructor <;> dsimp only <;> omega
  · rcases (show (0 ≤ r ∧ r < 6888) ∨ (6888 ≤ r ∧ r < 16404) ∨ (16404 ≤ r ∧ r < 23269) ∨ (23269 ≤ r ∧ r < 25920) by omega) with hr | hr | hr | hr
    · have am : d1 (y - 1) = 7 * W + (-380) := d1_at (c := -380) (by omega)
      have a0 : d1 (y) = 7 * W + (5) := d1_at (c := 4) (by omega)
      have an : d1 (y + 1) = 7 * W + (358) := d1_at (c := 358) (by omega)
      have as : d1 (y + 1 + 1) = 7 * W + (712) := d1_at (c := 712) (by omega)
      have v : d2 y = 0 := e1.2.2 (by omega) (by omega)
      have u : d2 (y + 1) = 0 := e2.2.2 (by omega) (by omega)
      rw [show gC 49189 136488 (25920 * 5 + r) = (5, 353) by unfold gC; rw [if_neg (show ¬ (25920 * 5 + r < 16404) by omega), if_neg (show ¬ (25920 * 5 + r < 49189) by omega), if_neg (show ¬ (25920 * 5 + r < 68244) by omega), if_neg (show ¬ (25920 * 5 + r < 120084) by omega), if_neg (show ¬ (25920 * 5 + r < 129600) by omega), if_pos (show 25920 * 5 + r < 136488 by omega)]]
      constructor <;> dsimp only <;> omega
    · have am : d1 (y - 1) = 7 * W + (-380) := d1_at (c := -380) (by omega)
      have a0 : d1 (y) = 7 * W + (5) := d1_at (c := 4) (by omega)
      have an : d1 (y + 1) = 7 * W + (358) := d1_at (c := 358) (by omega)
      have as : d1 (y + 1 + 1) = 7 * W + (714) := d1_at (c := 713) (by omega)
      have v : d2 y = 0 := e1.2.2 (by omega) (by omega)
      have u : d2 (y + 1) = 2 := e2.1 (by omega)
      rw [show gC 49189 136488 (25920 * 5 + r) = (5, 355) by unfold gC; rw [if_neg (show ¬ (25920 * 5 + r < 16404) by omega), if_neg (show ¬ (25920 * 5 + r < 49189) by omega), if_neg (show ¬ (25920 * 5 + r < 68244) by omega), if_neg (show ¬ (25920 * 5 + r < 120084) by omega), if_neg (show ¬ (25920 * 5 + r < 129600) by omega), if_neg (show ¬ (25920 * 5 + r < 136488) by omega)]]
      constructor <;> dsimp only <;> omega
    · have am : d1 (y - 1) = 7 * W + (-380) := d1_at (c := -380) (by omega)
      have a0 : d1 (y) = 7 * W + (5) := d1_at (c := 4) (by omega)
      have an : d1 (y + 1) = 7 * W + (360) := d1_at (c := 359) (by omega)
      have as : d1 (y + 1 + 1) = 7 * W + (714) := d1_at (c := 713) (by omega)
      have v : d2 y = 0 := e1.2.2 (by omega) (by omega)
      have u : d2 (y + 1) = 0 := e2.2.2 (by omega) (by omega)
      rw [show gC 49189 136488 (25920 * 5 + r) = (5, 355) by unfold gC; rw [if_neg (show ¬ (25920 * 5 + r < 16404) by omega), if_neg (show ¬ (25920 * 5 + r < 49189) by omega), if_neg (show ¬ (25920 * 5 + r < 68244) by omega), if_neg (show ¬ (25920 * 5 + r < 120084) by omega), if_neg (show ¬ (25920 * 5 + r < 129600) by omega), if_neg (show ¬ (25920 * 5 + r < 136488) by omega)]]
      constructor <;> dsimp only <;> omega
    · have am : d1 (y - 1) = 7 * W + (-378) := d1_at (c := -379) (by omega)
      have a0 : d1 (y) = 7 * W + (5) := d1_at (c := 4) (by omega)
      have an : d1 (y + 1) = 7 * W + (360) := d1_at (c := 359) (by omega)
      have as : d1 (y + 1 + 1) = 7 * W + (714) := d1_at (c := 713) (by omega)
      have v : d2 y = 0 := e1.2.2 (by omega) (by omega)
      have u : d2 (y + 1) = 0 := e2.2.2 (by omega) (by omega)
      rw [show gC 49189 136488 (25920 * 5 + r) = (5, 355) by unfold gC; rw [if_neg (show ¬ (25920 * 5 + r < 16404) by omega), if_neg (show ¬ (25920 * 5 + r < 49189) by omega), if_neg (show ¬ (25920 * 5 + r < 68244) by omega), if_neg (show ¬ (25920 * 5 + r < 120084) by omega), if_neg (show ¬ (25920 * 5 + r < 129600) by omega), if_neg (show ¬ (25920 * 5 + r < 136488) by omega)]]
      constructor <;> dsimp only <;> omega
  · rcases (show (0 ≤ r ∧ r < 6888) ∨ (6888 ≤ r ∧ r < 16404) ∨ (16404 ≤ r ∧ r < 23269) ∨ (23269 ≤ r ∧ r < 25920) by omega) with hr | hr | hr | hr
    · have am : d1 (y - 1) = 7 * W + (-378) := d1_at (c := -379) (by omega)
      have a0 : d1 (y) = 7 * W + (5) := d1_at (c := 5) (by omega)
      have an : d1 (y + 1) = 7 * W + (360) := d1_at (c := 359) (by omega)
      have as : d1 (y + 1 + 1) = 7 * W + (714) := d1_at (c := 713) (by omega)
      have v : d2 y = 0 := e1.2.2 (by omega) (by omega)
      have u : d2 (y + 1) = 0 := e2.2.2 (by omega) (by omega)
      rw [show gC 49189 136488 (25920 * 6 + r) = (5, 355) by unfold gC; rw [if_neg (show ¬ (25920 * 6 + r < 16404) by omega), if_neg (show ¬ (25920 * 6 + r < 49189) by omega), if_neg (show ¬ (25920 * 6 + r < 68244) by omega), if_neg (show ¬ (25920 * 6 + r < 120084) by omega), if_neg (show ¬ (25920 * 6 + r < 129600) by omega), if_neg (show ¬ (25920 * 6 + r < 136488) by omega)]]
      constructor <;> dsimp only <;> omega
    · have am : d1 (y - 1) = 7 * W + (-378) := d1_at (c := -379) (by omega)
      have a0 : d1 (y) = 7 * W + (5) := d1_at (c := 5) (by omega)
      have an : d1 (y + 1) = 7 * W + (360) := d1_at (c := 359) (by omega)
      have as : d1 (y + 1 + 1) = 7 * W + (714) := d1_at (c := 714) (by omega)
      have v : d2 y = 0 := e1.2.2 (by omega) (by omega)
      have u : d2 (y + 1) = 0 := e2.2.2 (by omega) (by omega)
      rw [show gC 49189 136488 (25920 * 6 + r) = (5, 355) by unfold gC; rw [if_neg (show ¬ (25920 * 6 + r < 16404) by omega), if_neg (show ¬ (25920 * 6 + r < 49189) by omega), if_neg (show ¬ (25920 * 6 + r < 68244) by omega), if_neg (show ¬ (25920 * 6 + r < 120084) by omega), if_neg (show ¬ (25920 * 6 + r < 129600) by omega), if_neg (show ¬ (25920 * 6 + r < 136488) by omega)]]
      constructor <;> dsimp only <;> omega
    · have am : d1 (y - 1) = 7 * W + (-378) := d1_at (c := -379) (by omega)
      have a0 : d1 (y) = 7 * W + (5) := d1_at (c := 5) (by omega)
      have an : d1 (y + 1) = 7 * W + (360) := d1_at (c := 360) (by omega)
      have as : d1 (y + 1 + 1) = 7 * W + (714) := d1_at (c := 714) (by omega)
      have v : d2 y = 0 := e1.2.2 (by omega) (by omega)
      have u : d2 (y + 1) = 0 := e2.2.2 (by omega) (by omega)
      rw [show gC 49189 136488 (25920 * 6 + r) = (5, 355) by unfold gC; rw [if_neg (show ¬ (25920 * 6 + r < 16404) by omega), if_neg (show ¬ (25920 * 6 + r < 49189) by omega), if_neg (show ¬ (25920 * 6 + r < 68244) by omega), if_neg (show ¬ (25920 * 6 + r < 120084) by omega), if_neg (show ¬ (25920 * 6 + r < 129600) by omega), if_neg (show ¬ (25920 * 6 + r < 136488) by omega)]]
      constructor <;> dsimp only <;> omega
    · have am : d1 (y - 1) = 7 * W + (-378) := d1_at (c := -378) (by omega)
      have a0 : d1 (y) = 7 * W + (5) := d1_at (c := 5) (by omega)
      have an : d1 (y + 1) = 7 * W + (360) := d1_at (c := 360) (by omega)
      have as : d1 (y + 1 + 1) = 7 * W + (714) := d1_at (c := 714) (by omega)
      have v : d2 y = 0 := e1.2.2 (by omega) (by omega)
      have u : d2 (y + 1) = 0 := e2.2.2 (by omega) (by omega)
      rw [show gC 49189 136488 (25920 * 6 + r) = (5, 355) by unfold gC; rw [if_neg (show ¬ (25920 * 6 + r < 16404) by omega), if_neg (show ¬ (25920 * 6 + r < 49189) by omega), if_neg (show ¬ (25920 * 6 + r < 68244) by omega), if_neg (show ¬ (25920 * 6 + r < 120084) by omega), if_neg (show ¬ (25920 * 6 + r < 129600) by omega), if_neg (show ¬ (25920 * 6 + r < 136488) by omega)]]
      constructor <;> dsimp only <;> omega

def wk (y : Int) : Int := (pt y + 25920) / 181440
def mn (y : Int) : Int := (pt y + 25920) % 181440
theorem pt_prev (y : Int) : pt (y - 1) = pt y - (if leapB (y - 1) = true then 9950629 else 9185196) := by
  have := pt_next (y - 1)
  rw [Int.sub_add_cancel] at this
  omega
theorem master (y : Int) : d1 y + d2 y = 7 * wk y + (gate y (mn y)).1 ∧ yl y = (gate y (mn y)).2 := by
  obtain ⟨w, r, hm, h0, h1, hw⟩ : ∃ w r : Int, mn y = 25920 * w + r ∧ 0 ≤ r ∧ r < 25920 ∧ (w = 0 ∨ w = 1 ∨ w = 2 ∨ w = 3 ∨ w = 4 ∨ w = 5 ∨ w = 6) :=
    ⟨mn y / 25920, mn y % 25920, by omega, by omega, by omega, by unfold mn; omega⟩
  have hp : pt y = 25920 * (7 * wk y + w - 1) + r := by unfold wk; unfold mn at hm; omega
  have hm1 := pt_prev y
  have hn := pt_next y
  have hs := pt_next (y + 1)
  have pat := leap_pat y
  unfold gate
  rw [hm]
  cases hl : leapB y with
  | true =>
    obtain ⟨g1, g2⟩ := pat.1 hl
    rw [hl, if_pos rfl] at hn
    rw [g2] at hm1
    rw [g1] at hs
    simp only [Bool.false_eq_true, if_false] at hm1 hs
    rw [if_pos rfl]
    exact m_long hp h0 h1 hw hm1 hn (by omega)
  | false =>
    rw [hl] at hn
    simp only [Bool.false_eq_true, if_false] at hn ⊢
    cases hlp : leapB (y - 1) with
    | true =>
      rw [hlp, if_pos rfl] at hm1
      cases hln : leapB (y + 1) with
      | true =>
        rw [hln, if_pos rfl] at hs
        simp only [if_true]
        exact m_between hp h0 h1 hw hm1 hn (by omega)
      | false =>
        rw [hln] at hs
        simp only [Bool.false_eq_true, if_false] at hs ⊢
        simp only [if_true]
        exact m_behind hp h0 h1 hw hm1 hn (by omega)
    | false =>
      have hln := pat.2 hl hlp
      rw [hlp] at hm1
      rw [hln, if_pos rfl] at hs
      rw [hln]
      simp only [Bool.false_eq_true, if_false] at hm1 ⊢
      simp only [if_true]
      exact m_ahead hp h0 h1 hw hm1 hn (by omega)
theorem gL_len (m : Int) : (gL m).2 = 383 ∨ (gL m).2 = 384 ∨ (gL m).2 = 385 := by
  unfold gL; repeat' split
  all_goals simp
theorem gC_len (t2 t6 m : Int) : (gC t2 t6 m).2 = 353 ∨ (gC t2 t6 m).2 = 354 ∨ (gC t2 t6 m).2 = 355 := by
  unfold gC; repeat' split
  all_goals simp
theorem yl_leap {y : Int} (h : leapB y = true) : yl y = 383 ∨ yl y = 384 ∨ yl y = 385 := by
  rw [(master y).2]; unfold gate; rw [if_pos h]; exact gL_len _
theorem yl_com {y : Int} (h : leapB y = false) : yl y = 353 ∨ yl y = 354 ∨ yl y = 355 := by
  rw [(master y).2]; unfold gate; rw [h]; simp only [Bool.false_eq_true, if_false]; exact gC_len _ _ _
theorem yl_six (y : Int) : yl y = 353 ∨ yl y = 354 ∨ yl y = 355 ∨ yl y = 383 ∨ yl y = 384 ∨ yl y = 385 := by
  cases h : leapB y with
  | true => have := yl_leap h; omega
  | false => have := yl_com h; omega
/-- a month's days -/
def mlen (y m : Int) : Int :=
  if m = 2 ∨ m = 4 ∨ m = 6 ∨ m = 10 ∨ m = 13 then 29 else if m = 12 ∧ leapB y = false then 29 else if m = 8 ∧ yl y % 10 ≠ 5 then 29 else if m = 9 ∧ yl y % 10 = 3 then 29 else 30
theorem mlen_bnd (y m : Int) : mlen y m = 29 ∨ mlen y m = 30 := by
  unfold mlen; repeat' split
  all_goals simp
def sm (y a : Int) : Nat → Int
  | 0 => 0
  | n + 1 => sm y a n + mlen y (a + n)
theorem sm_bnd (y a : Int) (n : Nat) : 29 * n ≤ sm y a n ∧ sm y a n ≤ 30 * n := by
  induction n with
  | zero => simp [sm]
  | succ n ih => have := mlen_bnd y (a + n); unfold sm; omega
/-- the days of the year ahead of a month -/
def off (y m : Int) : Int := if m < 7 then sm y 7 (ym y + 1 - 7).toNat + sm y 1 (m - 1).toNat else sm y 7 (m - 7).toNat
/-- the number of a date's day -/
def dn (y m d : Int) : Int := ny y + off y m + d

theorem ny_next (y : Int) : ny (y + 1) = ny y + yl y := by unfold yl; omega
theorem ny_up (y : Int) (n : Nat) : ny y + 353 * n ≤ ny (y + n) := by
  induction n with
  | zero => simp
  | succ n ih =>
    have h1 := ny_next (y + n)
    have h2 := yl_six (y + n)
    have e : y + ((n + 1 : Nat) : Int) = y + n + 1 := by omega
    rw [e]
    omega
theorem ny_mono {a b : Int} (h : a ≤ b) : ny a + 353 * (b - a) ≤ ny b := by
  have := ny_up a (b - a).toNat
  have e : a + ((b - a).toNat : Int) = b := by omega
  rw [e] at this
  omega
theorem ny_first : ny (-951) = 274 := by decide +kernel
theorem ny_pos {y : Int} (h : -951 ≤ y) : 274 ≤ ny y := by
  have := ny_mono h
  rw [ny_first] at this
  omega
def tr (n : Int) : Int := if 0 ≤ n then n else n + 1
theorem tr_div (n : Int) : (1024 * n + 512).tdiv 1024 = tr n := by
  unfold tr
  split
  · rw [Int.tdiv_eq_ediv_of_nonneg (by omega)]; omega
  · have e : (1024 * n + 512).tdiv 1024 = -((-(1024 * n + 512)).tdiv 1024) := by rw [Int.neg_tdiv, Int.neg_neg]
    rw [e, Int.tdiv_eq_ediv_of_nonneg (by omega)]; omega
/-- the float n + 1/2, cut to an int and half a day more -/
def J (n : Int) : UInt64 := G (1024 * tr n + 512)
theorem J_pos {n : Int} (h : 0 ≤ n) : J n = G (1024 * n + 512) := by unfold J tr; rw [if_pos h]
theorem off_bnd {y m : Int} (h1 : 1 ≤ m) (h2 : m ≤ 13) : 0 ≤ off y m ∧ off y m ≤ 400 := by
  unfold off
  split
  · have a := sm_bnd y 7 (ym y + 1 - 7).toNat
    have b := sm_bnd y 1 (m - 1).toNat
    have : ym y = 12 ∨ ym y = 13 := by unfold ym; split <;> simp
    omega
  · have a := sm_bnd y 7 (m - 7).toNat
    omega

theorem any5t {m : Int} (h : ([2, 4, 6, 10, 13].any fun x => x == m) = true) : m = 2 ∨ m = 4 ∨ m = 6 ∨ m = 10 ∨ m = 13 := by simp at h; omega
theorem any5f {m : Int} (h : ([2, 4, 6, 10, 13].any fun x => x == m) = false) : ¬ (m = 2 ∨ m = 4 ∨ m = 6 ∨ m = 10 ∨ m = 13) := by simp at h; omega
theorem ml_a {y m : Int} (h : m = 2 ∨ m = 4 ∨ m = 6 ∨ m = 10 ∨ m = 13) : 29 = mlen y m := by unfold mlen; rw [if_pos h]
theorem ml_b {y m : Int} (h : m = 12) (h' : leapB y = false) : 29 = mlen y m := by unfold mlen; rw [if_neg (by omega), if_pos ⟨h, h'⟩]
theorem ml_c {y m : Int} (h : m = 12) (h' : leapB y = true) : 30 = mlen y m := by
  unfold mlen; rw [if_neg (by omega), if_neg (by simp [h']), if_neg (by omega), if_neg (by omega)]
theorem ml_d {y m : Int} (h : m = 8) (h' : yl y % 10 ≠ 5) : 29 = mlen y m := by
  unfold mlen; rw [if_neg (by omega), if_neg (by omega), if_pos ⟨h, h'⟩]
theorem ml_e {y m : Int} (h : m = 8) (h' : yl y % 10 = 5) : 30 = mlen y m := by
  unfold mlen; rw [if_neg (by omega), if_neg (by omega), if_neg (by omega), if_neg (by omega)]
theorem ml_f {y m : Int} (h : m = 9) (h' : yl y % 10 = 3) : 29 = mlen y m := by
  unfold mlen; rw [if_neg (by omega), if_neg (by omega), if_neg (by omega), if_pos ⟨h, h'⟩]
theorem ml_g {y m : Int} (h : m = 9) (h' : yl y % 10 ≠ 3) : 30 = mlen y m := by
  unfold mlen; rw [if_neg (by omega), if_neg (by omega), if_neg (by omega), if_neg (by omega)]
theorem ml_h {y m : Int} (h : ¬ (m = 2 ∨ m = 4 ∨ m = 6 ∨ m = 10 ∨ m = 13)) (h1 : m ≠ 12) (h2 : m ≠ 8) (h3 : m ≠ 9) : 30 = mlen y m := by
  unfold mlen; rw [if_neg h, if_neg (by omega), if_neg (by omega), if_neg (by omega)]
theorem f_jd7 {y d : Int} (h1 : -951 ≤ y) (h2 : y < 7200000000) (h3 : 0 ≤ d) (h4 : d ≤ 400) : 0 ≤ ny y + d ∧ ny y + d < 2670000401000 ∧ 274 ≤ ny y := by
  have a := ny_pos h1
  have b := ny_bnd (show -10000 < y by omega) (show y < 7300000000 by omega)
  omega
theorem f_yd {y : Int} (_ : -951 ≤ y) : yl y = 353 ∨ yl y = 354 ∨ yl y = 355 ∨ yl y = 383 ∨ yl y = 384 ∨ yl y = 385 := yl_six y
theorem f_ml {y m : Int} (_ : -951 ≤ y) (_ : m ≤ 13) : mlen y m = 29 ∨ mlen y m = 30 := mlen_bnd y m
end Mine
end
section
namespace Mine
theorem ml_fix (y : Int) : mlen y 1 = 30 ∧ mlen y 2 = 29 ∧ mlen y 3 = 30 ∧ mlen y 4 = 29 ∧ mlen y 5 = 30 ∧ mlen y 6 = 29 ∧ mlen y 7 = 30 ∧ mlen y 10 = 29 ∧ mlen y 11 = 30 ∧ mlen y 13 = 29 := by
  unfold mlen; simp
theorem ml_12 (y : Int) : (leapB y = true → mlen y 12 = 30) ∧ (leapB y = false → mlen y 12 = 29) :=
  ⟨fun h => (ml_c rfl h).symm, fun h => (ml_b rfl h).symm⟩
theorem ml_8 (y : Int) : (yl y % 10 = 5 → mlen y 8 = 30) ∧ (yl y % 10 ≠ 5 → mlen y 8 = 29) :=
  ⟨fun h => (ml_e rfl h).symm, fun h => (ml_d rfl h).symm⟩
theorem ml_9 (y : Int) : (yl y % 10 = 3 → mlen y 9 = 29) ∧ (yl y % 10 ≠ 3 → mlen y 9 = 30) :=
  ⟨fun h => (ml_f rfl h).symm, fun h => (ml_g rfl h).symm⟩
theorem off_hi (y : Int) : off y 7 = 0 ∧ off y 8 = 30 ∧ off y 9 = 30 + mlen y 8 ∧ off y 10 = 30 + mlen y 8 + mlen y 9 ∧ off y 11 = 59 + mlen y 8 + mlen y 9 ∧ off y 12 = 89 + mlen y 8 + mlen y 9 ∧ off y 13 = 89 + mlen y 8 + mlen y 9 + mlen y 12 := by
  have f := ml_fix y
  obtain ⟨f1, f2, f3, f4, f5, f6, f7, f10, f11, f13⟩ := f
  refine ⟨rfl, ?_, ?_, ?_, ?_, ?_, ?_⟩
  · show (0 : Int) + mlen y 7 = _; omega
  · show (0 : Int) + mlen y 7 + mlen y 8 = _; omega
  · show (0 : Int) + mlen y 7 + mlen y 8 + mlen y 9 = _; omega
  · show (0 : Int) + mlen y 7 + mlen y 8 + mlen y 9 + mlen y 10 = _; omega
  · show (0 : Int) + mlen y 7 + mlen y 8 + mlen y 9 + mlen y 10 + mlen y 11 = _; omega
  · show (0 : Int) + mlen y 7 + mlen y 8 + mlen y 9 + mlen y 10 + mlen y 11 + mlen y 12 = _; omega
/-- the days from Tishri to the year's last month ahead of Nisan -/
def upto (y : Int) : Int := if leapB y = true then 118 + mlen y 8 + mlen y 9 + mlen y 12 else 89 + mlen y 8 + mlen y 9 + mlen y 12
theorem upto_sm (y : Int) : sm y 7 (ym y + 1 - 7).toNat = upto y := by
  have f := ml_fix y
  obtain ⟨f1, f2, f3, f4, f5, f6, f7, f10, f11, f13⟩ := f
  unfold upto ym
  cases h : leapB y with
  | true =>
    simp only [if_true]
    show (0 : Int) + mlen y 7 + mlen y 8 + mlen y 9 + mlen y 10 + mlen y 11 + mlen y 12 + mlen y 13 = _; omega
  | false =>
    simp only [Bool.false_eq_true, if_false]
    show (0 : Int) + mlen y 7 + mlen y 8 + mlen y 9 + mlen y 10 + mlen y 11 + mlen y 12 = _; omega
theorem off_lo (y : Int) : off y 1 = upto y ∧ off y 2 = upto y + 30 ∧ off y 3 = upto y + 59 ∧ off y 4 = upto y + 89 ∧ off y 5 = upto y + 118 ∧ off y 6 = upto y + 148 := by
  have f := ml_fix y
  obtain ⟨f1, f2, f3, f4, f5, f6, f7, f10, f11, f13⟩ := f
  have hu := upto_sm y
  refine ⟨?_, ?_, ?_, ?_, ?_, ?_⟩
  · show sm y 7 (ym y + 1 - 7).toNat + 0 = _; omega
  · show sm y 7 (ym y + 1 - 7).toNat + (0 + mlen y 1) = _; omega
  · show sm y 7 (ym y + 1 - 7).toNat + (0 + mlen y 1 + mlen y 2) = _; omega
  · show sm y 7 (ym y + 1 - 7).toNat + (0 + mlen y 1 + mlen y 2 + mlen y 3) = _; omega
  · show sm y 7 (ym y + 1 - 7).toNat + (0 + mlen y 1 + mlen y 2 + mlen y 3 + mlen y 4) = _; omega
  · show sm y 7 (ym y + 1 - 7).toNat + (0 + mlen y 1 + mlen y 2 + mlen y 3 + mlen y 4 + mlen y 5) = _; omega
theorem year_sum (y : Int) : yl y = upto y + 177 := by
  have a := ml_8 y
  have b := ml_9 y
  have c := ml_12 y
  unfold upto
  cases h : leapB y with
  | true => have l := yl_leap h; have c := c.1 h; simp only [if_true]; omega
  | false => have l := yl_com h; have c := c.2 h; simp only [Bool.false_eq_true, if_false]; omega
theorem ym_cases (y : Int) : (leapB y = true ∧ ym y = 13) ∨ (leapB y = false ∧ ym y = 12) := by
  unfold ym; cases leapB y <;> simp
/-- a day of the calendar -/
structure FJ (y m d N : Int) : Prop where
  y1 : -951 ≤ y
  y2 : y < 7000000000
  m1 : 1 ≤ m
  m2 : m ≤ ym y
  d1 : 1 ≤ d
  d2 : d ≤ mlen y m
  n : N = dn y m d
theorem by13 {m : Int} (h : 1 ≤ m) (h' : m ≤ 13) : m = 1 ∨ m = 2 ∨ m = 3 ∨ m = 4 ∨ m = 5 ∨ m = 6 ∨ m = 7 ∨ m = 8 ∨ m = 9 ∨ m = 10 ∨ m = 11 ∨ m = 12 ∨ m = 13 := by omega
theorem off_bdH {y m : Int} (h7 : 7 ≤ m) (m2 : m ≤ ym y) (m3 : m ≤ 13) : 0 ≤ off y m ∧ off y m + mlen y m ≤ upto y := by
  have e8 : 29 ≤ mlen y 8 ∧ mlen y 8 ≤ 30 := by have := mlen_bnd y 8; omega
  have e9 : 29 ≤ mlen y 9 ∧ mlen y 9 ≤ 30 := by have := mlen_bnd y 9; omega
  have e12 : 29 ≤ mlen y 12 ∧ mlen y 12 ≤ 30 := by have := mlen_bnd y 12; omega
  obtain ⟨o7, o8, o9, o10, o11, o12, o13⟩ := off_hi y
  obtain ⟨c1, c2, c3, c4, c5, c6, c7, c10, c11, c13⟩ := ml_fix y
  have hu : upto y = (if leapB y = true then 118 + mlen y 8 + mlen y 9 + mlen y 12 else 89 + mlen y 8 + mlen y 9 + mlen y 12) := rfl
  have hL : 89 + mlen y 8 + mlen y 9 + mlen y 12 ≤ upto y := by rw [hu]; split <;> omega
  have hL13 : m = 13 → 118 + mlen y 8 + mlen y 9 + mlen y 12 ≤ upto y := by
    intro h
    rcases ym_cases y with ⟨hl, _⟩ | ⟨_, hm⟩
    · rw [hu, hl, if_pos rfl]; omega
    · omega
  clear hu
  rcases (show m = 7 ∨ m = 8 ∨ m = 9 ∨ m = 10 ∨ m = 11 ∨ m = 12 ∨ m = 13 by omega) with rfl | rfl | rfl | rfl | rfl | rfl | rfl
  · rw [o7, c7]; clear o7 o8 o9 o10 o11 o12 o13 c1 c2 c3 c4 c5 c6 c7 c10 c11 c13 ; omega
  · rw [o8]; clear o7 o8 o9 o10 o11 o12 o13 c1 c2 c3 c4 c5 c6 c7 c10 c11 c13 ; omega
  · rw [o9]; clear o7 o8 o9 o10 o11 o12 o13 c1 c2 c3 c4 c5 c6 c7 c10 c11 c13 ; omega
  · rw [o10, c10]; clear o7 o8 o9 o10 o11 o12 o13 c1 c2 c3 c4 c5 c6 c7 c10 c11 c13 ; omega
  · rw [o11, c11]; clear o7 o8 o9 o10 o11 o12 o13 c1 c2 c3 c4 c5 c6 c7 c10 c11 c13 ; omega
  · rw [o12]; clear o7 o8 o9 o10 o11 o12 o13 c1 c2 c3 c4 c5 c6 c7 c10 c11 c13 ; omega
  · have := hL13 rfl; rw [o13, c13]; clear o7 o8 o9 o10 o11 o12 o13 c1 c2 c3 c4 c5 c6 c7 c10 c11 c13 ; omega
theorem off_bdL {y m : Int} (h1 : 1 ≤ m) (h7 : m < 7) : upto y ≤ off y m ∧ off y m + mlen y m ≤ yl y := by
  obtain ⟨o1, o2, o3, o4, o5, o6⟩ := off_lo y
  obtain ⟨c1, c2, c3, c4, c5, c6, _⟩ := ml_fix y
  have hs := year_sum y
  rcases (show m = 1 ∨ m = 2 ∨ m = 3 ∨ m = 4 ∨ m = 5 ∨ m = 6 by omega) with rfl | rfl | rfl | rfl | rfl | rfl
  · rw [o1, c1]; clear o1 o2 o3 o4 o5 o6 c1 c2 c3 c4 c5 c6 ; omega
  · rw [o2, c2]; clear o1 o2 o3 o4 o5 o6 c1 c2 c3 c4 c5 c6 ; omega
  · rw [o3, c3]; clear o1 o2 o3 o4 o5 o6 c1 c2 c3 c4 c5 c6 ; omega
  · rw [o4, c4]; clear o1 o2 o3 o4 o5 o6 c1 c2 c3 c4 c5 c6 ; omega
  · rw [o5, c5]; clear o1 o2 o3 o4 o5 o6 c1 c2 c3 c4 c5 c6 ; omega
  · rw [o6, c6]; clear o1 o2 o3 o4 o5 o6 c1 c2 c3 c4 c5 c6 ; omega
theorem FJ.inYear {y m d N : Int} (f : FJ y m d N) : ny y + 1 ≤ N ∧ N ≤ ny (y + 1) ∧ (7 ≤ m → N < dn y 1 1) ∧ (m < 7 → dn y 1 1 ≤ N) := by
  obtain ⟨y1, y2, m1, m2, d1, d2, n⟩ := f
  have hn := ny_next y
  have o1 := (off_lo y).1
  have hs := year_sum y
  have h13 : m ≤ 13 := by have := ym_cases y; omega
  unfold dn at *
  rcases Int.lt_or_le m 7 with h | h
  · have q := off_bdL (y := y) m1 h
    have hu := (off_bdH (y := y) (m := 7) (by omega) (by have := ym_cases y; omega) (by omega))
    have o7 := (off_hi y).1
    have l7 := mlen_bnd y 7
    omega
  · have q := off_bdH (y := y) h m2 h13
    omega
set_option maxHeartbeats 2000000 in
/-- the months of a half of the year, in their order -/
theorem FJ.month {y m d N i : Int} (f : FJ y m d N) (h1 : 1 ≤ i) (h2 : i ≤ m) (h7 : 7 ≤ m → 7 ≤ i) : (N > dn y i (mlen y i)) ↔ i < m := by
  obtain ⟨y1, y2, m1, m2, d1, d2, n⟩ := f
  have hy := ym_cases y
  have hst : ∀ j : Int, 1 ≤ j → j ≤ 12 → j ≠ 6 → off y (j + 1) = off y j + mlen y j := by
    intro j j1 j2 j3
    have a := off_hi y
    have b := off_lo y
    have c := ml_fix y
    rcases (show j = 1 ∨ j = 2 ∨ j = 3 ∨ j = 4 ∨ j = 5 ∨ j = 7 ∨ j = 8 ∨ j = 9 ∨ j = 10 ∨ j = 11 ∨ j = 12 by omega) with rfl | rfl | rfl | rfl | rfl | rfl | rfl | rfl | rfl | rfl | rfl <;> simp only [Int.reduceAdd] <;> omega
  have up : ∀ n : Nat, i + n ≤ m → off y i + mlen y i * (if n = 0 then 0 else 1) ≤ off y (i + n) := by
    intro n
    induction n with
    | zero => intro _; simp
    | succ n ih =>
      intro hle
      have hi := ih (by omega)
      have e := hst (i + n) (by omega) (by omega) (by omega)
      have b := mlen_bnd y (i + n)
      have : i + ((n + 1 : Nat) : Int) = i + n + 1 := by omega
      rw [this, e]
      rcases Nat.eq_zero_or_pos n with rfl | hn
      · simp
      · simp only [Nat.pos_iff_ne_zero.mp hn, if_false, Nat.succ_ne_zero] at hi ⊢
        omega
  unfold dn at *
  constructor
  · intro h
    rcases Int.lt_or_eq_of_le h2 with h3 | h3
    · exact h3
    · subst h3; omega
  · intro h
    have := up (m - i).toNat (by omega)
    have e : i + ((m - i).toNat : Int) = m := by omega
    rw [e, if_neg (by omega), Int.mul_one] at this
    omega
theorem tr_facts (n : Int) : (0 ≤ n → tr n = n) ∧ (n < 0 → tr n = n + 1) := by
  unfold tr; exact ⟨fun h => if_pos h, fun h => if_neg (by omega)⟩
theorem FJ.year {y m d N i : Int} (f : FJ y m d N) (h2 : i ≤ y + 1) : (N ≥ tr (ny i + 1)) ↔ i ≤ y := by
  have a := f.inYear
  have b := ny_pos f.y1
  have t := tr_facts (ny i + 1)
  constructor
  · intro h
    rcases Int.lt_or_eq_of_le h2 with h3 | h3
    · omega
    · subst h3
      have := ny_next y
      have := yl_six y
      omega
  · intro h
    have := ny_mono h
    omega
theorem gC_e (t2 t6 m : Int) (h2 : 49189 ≤ t2) (h3 : t2 ≤ 51840) (h6 : 136488 ≤ t6) (h7 : t6 ≤ 146004) (h0 : 0 ≤ m) (h1 : m < 181440) : -51840 ≤ 25920 * (gC t2 t6 m).1 - m ∧ 25920 * (gC t2 t6 m).1 - m ≤ 9516 := by
  have := gC_facts t2 t6 m
  omega
theorem gL_e (m : Int) (h0 : 0 ≤ m) (h1 : m < 181440) : -51840 ≤ 25920 * (gL m).1 - m ∧ 25920 * (gL m).1 - m ≤ 9516 := by
  have := gL_facts m
  omega
theorem gate_e (y : Int) : -51840 ≤ 25920 * (gate y (mn y)).1 - mn y ∧ 25920 * (gate y (mn y)).1 - mn y ≤ 9516 := by
  have h0 : 0 ≤ mn y := by unfold mn; omega
  have h1 : mn y < 181440 := by unfold mn; omega
  unfold gate
  split
  · exact gL_e _ h0 h1
  · refine gC_e _ _ _ ?_ ?_ ?_ ?_ h0 h1 <;> split <;> omega
theorem lin (y : Int) : 35975351 * y - 38630400 ≤ 98496 * (d1 y + d2 y) ∧ 98496 * (d1 y + d2 y) ≤ 35975351 * y - 35641688 := by
  have h := (master y).1
  have g := gate_e y
  have hw : pt y + 25920 = 181440 * wk y + mn y := by unfold wk mn; omega
  have hp : pt y = 765433 * mo y + 12084 := rfl
  have hm : 19 * mo y ≤ 235 * y - 234 ∧ 235 * y - 252 ≤ 19 * mo y := by unfold mo; omega
  omega
theorem FJ.count {y m d N A c : Int} (f : FJ y m d N) (hA : A = N - 347995) (h1 : 35975351 * c < 98496 * A + 35975351) (h2 : 98496 * A < 35975351 * (c + 2)) : y - 6 ≤ c ∧ c ≤ y + 1 := by
  have a := f.inYear
  have l1 := lin y
  have l2 := lin (y + 1)
  unfold ny at a
  omega
theorem FJ.bnd {y m d N : Int} (f : FJ y m d N) : 0 < N ∧ N < 2670000400000 := by
  have a := f.inYear
  have b := ny_pos f.y1
  have y1 := f.y1
  have y2 := f.y2
  have c := ny_bnd (show -10000 < y + 1 by omega) (show y + 1 < 7300000000 by omega)
  omega
theorem mlen_bd (y m : Int) : 0 ≤ mlen y m ∧ mlen y m ≤ 400 := by have := mlen_bnd y m; omega
end Mine
end
section
set_option maxRecDepth 100000
namespace Mine
open PySem PySem.W PySem.Calls PyProof.Rows PySem.Flt
section
variable {prog : Program} {w : World} {A : Around} {E : Value → Shared → Prop} {s : Shared} {x y : UInt64} {a b n d : Int} {t u : Tok} {Q : Value → Shared → Prop}
theorem ofInt_ok (h : Ok (1024 * n)) : ¬ Float64.isInf (Float64.ofInt n) = true := by
  rw [ofInt_G h]
  obtain ⟨m, e, hd, _⟩ := G_dec h
  unfold Float64.isInf; rw [hd]; simp
theorem Qf_ok (hn : Ok n) (hd : 0 < d) (hd2 : d < 2 ^ 60) : ¬ Float64.isInf (Qf n d) = true := by
  have := (floor_Qf hn hd hd2).1
  intro h
  rw [not_inf_of_finite this] at h; cases h
theorem Qf_eq (hd : 0 < d) : Float64.ofFrac (decide (n < 0) != decide (d < 0)) n.natAbs d.natAbs = Qf n d := by
  unfold Qf
  have : decide (d < 0) = false := by simp; omega
  rw [this]; simp
theorem r_div (hn : Ok n) (hd : 0 < d) (hd2 : d < 2 ^ 60) (h : Q (.float (Qf n d) s.toks) { s with toks := s.toks + 1 }) : wpAny (model prog w) A (binaryOp .Div (.int n t) (.int d u)) Q E s := by
  have e := Qf_eq (n := n) hd
  refine AutoIntOps.truediv_2 (by simp; omega) (by rw [e]; exact Qf_ok hn hd hd2) ?_
  rw [e]; exact h
theorem Qf_1024 : Qf n 1024 = G n := rfl
theorem Qf_2 (h : Ok (512 * n)) : Qf n 2 = G (512 * n) := by
  have e : decide (512 * n < 0) = decide (n < 0) := by congr 1; apply propext; omega
  refine G_of_right h (D := 1) (W := (512 * n).natAbs * 2 ^ 1064) (by decide) ?_ (by rw [Nat.one_mul])
  rw [e]
  refine Float64.ofFrac_right (by decide) ?_ (by decide)
  rw [p1064, show (512 * n).natAbs = 512 * n.natAbs by omega, Nat.mul_one]
  have : (2 : Int).natAbs = 2 := rfl
  rw [this, show (1024 : Nat) = 512 * 2 by decide]
  ac_rfl
theorem r_div1024 (hn : Ok n) (h : Q (.float (G n) s.toks) { s with toks := s.toks + 1 }) : wpAny (model prog w) A (binaryOp .Div (.int n t) (.int 1024 u)) Q E s :=
  r_div hn (by decide) (by decide) h
theorem r_div2 (hn : Ok (512 * n)) (h : Q (.float (G (512 * n)) s.toks) { s with toks := s.toks + 1 }) : wpAny (model prog w) A (binaryOp .Div (.int n t) (.int 2 u)) Q E s :=
  r_div (by unfold Ok at *; omega) (by decide) (by decide) (by rw [Qf_2 hn]; exact h)
theorem r_floor (hf : Float64.isFinite x = true) (h : Q (.int (toInt Float64.floorOf x) s.toks) { s with toks := s.toks + 1 }) : wpAny (model prog w) A (call (.builtin "math.floor") [.float x t]) Q E s := by
  rcases three x with ⟨hd, c⟩ | ⟨_, hd, c⟩ | ⟨sg, m, e, hd, c⟩
  · unfold Float64.isFinite at hf; rw [hd] at hf; cases hf
  · unfold Float64.isFinite at hf; rw [hd] at hf; cases hf
  · rw [toInt_fin hd] at h
    exact call_fn_gives kind_floor plain_floor entry_floor (args_floor _) (gives_mfloor t hd) h
theorem r_floorQ (hn : Ok n) (hd : 0 < d) (hd2 : d < 2 ^ 60) (h : Q (.int (n / d) s.toks) { s with toks := s.toks + 1 }) : wpAny (model prog w) A (call (.builtin "math.floor") [.float (Qf n d) t]) Q E s := by
  have e := floor_Qf hn hd hd2
  refine r_floor e.1 ?_
  rw [e.2]; exact h
theorem r_floorG (ha : Ok a) (h : Q (.int (a / 1024) s.toks) { s with toks := s.toks + 1 }) : wpAny (model prog w) A (call (.builtin "math.floor") [.float (G a) t]) Q E s := by
  refine r_floor (fin_G ha) ?_
  rw [floor_G ha]; exact h
theorem tdiv_pos (h : 0 ≤ a) : a.tdiv 1024 = a / 1024 := Int.tdiv_eq_ediv_of_nonneg h
theorem tdiv_neg (h : a < 0) : a.tdiv 1024 = -((-a) / 1024) := by
  have e : a.tdiv 1024 = -((-a).tdiv 1024) := by rw [Int.neg_tdiv, Int.neg_neg]
  rw [e, Int.tdiv_eq_ediv_of_nonneg (by omega)]
theorem r_truncG (ha : Ok a) (h' : ∀ k : Int, (0 ≤ a → k = a / 1024) → (a < 0 → k = -((-a) / 1024)) → Q (.int k s.toks) { s with toks := s.toks + 1 }) : wpAny (model prog w) A (call (.builtin "math.trunc") [.float (G a) t]) Q E s := by
  have h := h' _ tdiv_pos tdiv_neg
  refine trunc_via ?_
  obtain ⟨m, e, hd, _⟩ := G_dec ha
  have hh := trunc_G ha
  rw [toInt_fin hd] at hh
  rw [← hh] at h
  exact call_gives F.slot_float_trunc (typeIs_float s _ t) F.entry_float_trunc (F.args_float_trunc_1 _) (gives_trunc t hd) h
theorem r_intG (ha : Ok a) (h' : ∀ k : Int, (0 ≤ a → k = a / 1024) → (a < 0 → k = -((-a) / 1024)) → Q (.int k s.toks) { s with toks := s.toks + 1 }) : wpAny (model prog w) A (call (.type "int") [.float (G a) t]) Q E s := by
  have h := h' _ tdiv_pos tdiv_neg
  obtain ⟨m, e, hd, _⟩ := G_dec ha
  have hh := trunc_G ha
  rw [toInt_fin hd] at hh
  rw [← hh] at h
  exact call_int_float hd h
theorem r_add_ff (hx : x = G a) (hy : y = G b) (ha : Ok a) (hb : Ok b) (hab : Ok (a + b)) (h : Q (.float (G (a + b)) s.toks) { s with toks := s.toks + 1 }) : wpAny (model prog w) A (binaryOp .Add (.float x t) (.float y u)) Q E s := by
  subst hx; subst hy
  refine add_float ?_
  rw [add_G ha hb hab]; exact h
theorem r_sub_ff (hx : x = G a) (hy : y = G b) (ha : Ok a) (hb : Ok b) (hab : Ok (a - b)) (h : Q (.float (G (a - b)) s.toks) { s with toks := s.toks + 1 }) : wpAny (model prog w) A (binaryOp .Sub (.float x t) (.float y u)) Q E s := by
  subst hx; subst hy
  refine sub_float ?_
  rw [sub_G ha hb hab]; exact h
theorem r_add_fi (hx : x = G a) (ha : Ok a) (hn : Ok (1024 * n)) (hab : Ok (a + 1024 * n)) (h : Q (.float (G (a + 1024 * n)) s.toks) { s with toks := s.toks + 1 }) : wpAny (model prog w) A (binaryOp .Add (.float x t) (.int n u)) Q E s := by
  subst hx
  refine AutoFloatOps.add_fi_1 (ofInt_ok hn) ?_
  rw [ofInt_G hn, add_G ha hn hab]; exact h
theorem r_iadd_fi (hx : x = G a) (ha : Ok a) (hn : Ok (1024 * n)) (hab : Ok (a + 1024 * n)) (h : Q (.float (G (a + 1024 * n)) s.toks) { s with toks := s.toks + 1 }) : wpAny (model prog w) A (inplaceOp .Add (.float x t) (.int n u)) Q E s := by
  subst hx
  refine iadd_fi_1 (ofInt_ok hn) ?_
  rw [ofInt_G hn, add_G ha hn hab]; exact h
theorem r_add_if (hx : x = G a) (ha : Ok a) (hn : Ok (1024 * n)) (hab : Ok (1024 * n + a)) (h : Q (.float (G (1024 * n + a)) s.toks) { s with toks := s.toks + 1 }) : wpAny (model prog w) A (binaryOp .Add (.int n u) (.float x t)) Q E s := by
  subst hx
  refine AutoFloatOps.add_if_1 (ofInt_ok hn) ?_
  rw [ofInt_G hn, add_G hn ha hab]; exact h
theorem r_sub_if (hx : x = G a) (ha : Ok a) (hn : Ok (1024 * n)) (hab : Ok (1024 * n - a)) (h : Q (.float (G (1024 * n - a)) s.toks) { s with toks := s.toks + 1 }) : wpAny (model prog w) A (binaryOp .Sub (.int n u) (.float x t)) Q E s := by
  subst hx
  refine AutoFloatOps.sub_if_1 (ofInt_ok hn) ?_
  rw [ofInt_G hn, sub_G hn ha hab]; exact h
theorem some_beq (o o' : Ordering) : ((some o : Option Ordering) == some o') = (o == o') := by cases o <;> cases o' <;> rfl
theorem compare_ge : (compare a b == .gt || compare a b == .eq) = decide (a ≥ b) := by
  rcases Int.lt_trichotomy a b with h | h | h
  · rw [Int.compare_eq_lt.mpr h]; simp; omega
  · subst h; simp
  · rw [Int.compare_eq_gt.mpr h]; simp; omega
theorem compare_gt : (compare a b == .gt) = decide (a > b) := by
  rcases Int.lt_trichotomy a b with h | h | h
  · rw [Int.compare_eq_lt.mpr h]; simp; omega
  · subst h; simp
  · rw [Int.compare_eq_gt.mpr h]; simp; omega
theorem compare_lt : (compare a b == .lt) = decide (a < b) := by
  rcases Int.lt_trichotomy a b with h | h | h
  · rw [Int.compare_eq_lt.mpr h]; simp; omega
  · subst h; simp
  · rw [Int.compare_eq_gt.mpr h]; simp; omega
theorem compare_eq : (compare a b == .eq) = (a == b) := by
  rcases Int.lt_trichotomy a b with h | h | h
  · rw [Int.compare_eq_lt.mpr h]; have : a ≠ b := by omega
    simp [this]
  · subst h; simp
  · rw [Int.compare_eq_gt.mpr h]; have : a ≠ b := by omega
    simp [this]
theorem r_ge_ff (hx : x = G a) (hy : y = G b) (ha : Ok a) (hb : Ok b) (h : Q (.bool (decide (a ≥ b))) s) : wpAny (model prog w) A (compareOp .GtE (.float x t) (.float y u)) Q E s := by
  subst hx; subst hy
  refine AutoFloatOps.ge_0 ?_
  rw [cmp_G ha hb, some_beq, some_beq, compare_ge]; exact h
theorem r_gt_ff (hx : x = G a) (hy : y = G b) (ha : Ok a) (hb : Ok b) (h : Q (.bool (decide (a > b))) s) : wpAny (model prog w) A (compareOp .Gt (.float x t) (.float y u)) Q E s := by
  subst hx; subst hy
  refine AutoFloatOps.gt_0 ?_
  rw [cmp_G ha hb, some_beq, compare_gt]; exact h
theorem r_lt_ff (hx : x = G a) (hy : y = G b) (ha : Ok a) (hb : Ok b) (h : Q (.bool (decide (a < b))) s) : wpAny (model prog w) A (compareOp .Lt (.float x t) (.float y u)) Q E s := by
  subst hx; subst hy
  refine AutoFloatOps.lt_0 ?_
  rw [cmp_G ha hb, some_beq, compare_lt]; exact h
theorem r_ne_ff (hx : x = G a) (hy : y = G b) (ha : Ok a) (hb : Ok b) (h : Q (.bool (a != b)) s) : wpAny (model prog w) A (compareOp .NotEq (.float x t) (.float y u)) Q E s := by
  subst hx; subst hy
  refine AutoFloatOps.ne_0 ?_
  unfold bne at *
  rw [cmp_G ha hb, some_beq, compare_eq]; exact h
theorem r_ne_fi (hx : x = G a) (ha : Ok a) (h : Q (.bool (a != 1024 * n)) s) : wpAny (model prog w) A (compareOp .NotEq (.float x t) (.int n u)) Q E s := by
  subst hx
  refine ne_fi ?_
  unfold bne at *
  rw [cmpInt_G ha, some_beq, compare_eq]; exact h
theorem r_eq_fi (hx : x = G a) (ha : Ok a) (h : Q (.bool (a == 1024 * n)) s) : wpAny (model prog w) A (compareOp .Eq (.float x t) (.int n u)) Q E s := by
  subst hx
  refine eq_fi ?_
  rw [cmpInt_G ha, some_beq, compare_eq]; exact h
theorem r_gt_fi (hx : x = G a) (ha : Ok a) (h : Q (.bool (decide (a > 1024 * n))) s) : wpAny (model prog w) A (compareOp .Gt (.float x t) (.int n u)) Q E s := by
  subst hx
  refine gt_fi ?_
  rw [cmpInt_G ha, some_beq, compare_gt]; exact h
theorem r_ne_if (hx : x = G a) (ha : Ok a) (h : Q (.bool (a != 1024 * n)) s) : wpAny (model prog w) A (compareOp .NotEq (.int n u) (.float x t)) Q E s := by
  subst hx
  refine ne_if ?_
  unfold bne at *
  rw [cmpInt_G ha, some_beq, compare_eq]; exact h
theorem mod10 : ∀ v ∈ [(353 : Int), 354, 355, 383, 384, 385], (Float64.divmod (G (1024 * v)) (Float64.ofInt 10)).2 = G (1024 * (v % 10)) := by decide +kernel
/-- the year's days, a float, % 10 -/
theorem r_mod10 {v : Int} (hx : x = G a) (ha : a = 1024 * v) (hv : v = 353 ∨ v = 354 ∨ v = 355 ∨ v = 383 ∨ v = 384 ∨ v = 385) (h : Q (.float (G (1024 * (v % 10))) s.toks) { s with toks := s.toks + 1 }) : wpAny (model prog w) A (binaryOp .Mod (.float x t) (.int 10 u)) Q E s := by
  subst hx; subst ha
  refine AutoFloatOps.mod_fi_2 (ofInt_ok (by unfold Ok; omega)) (by decide +kernel) ?_
  rw [mod10 v (by simp; omega)]; exact h
theorem c_half : (4602678819172646912 : UInt64) = G 512 := by decide +kernel
theorem c_epoch : (4689722129631936512 : UInt64) = G 356347392 := by decide +kernel
theorem c_98496 : (4681505006791163904 : UInt64) = G (1024 * 98496) := by decide +kernel
theorem c_weeks : (4720097339732131840 : UInt64) = G (1024 * 35975351) := by decide +kernel
theorem r_mod (hd : 0 < d) (h : Q (.int (n % d) s.toks) { s with toks := s.toks + 1 }) : wpAny (model prog w) A (binaryOp .Mod (.int n t) (.int d u)) Q E s := by
  refine mod_int' (by omega) ?_
  rw [Int.fmod_eq_emod_of_nonneg _ (by omega)]; exact h
end
def YY (_ : Int) : Prop := True
open PyProof.V PySem.Spec
section
variable {prog : Program} {w : World} {A : Around} {E : Value → Shared → Prop} {s : Shared} {env : Env} {h₀ : Heap} {x : Str} {body : List Stmt} {Q : Flow → Shared → Prop}
theorem iterRange_sm {r : Addr} {a₀ b₀ : Int} {t₀ u₀ v₀ : Tok} {m₀ : Str → Option Value} {news : List (Addr × Obj)} {y : Str} {c yy : Int} {tc : Tok} (_ : YY yy)
    (hh : A.handled = none) (hr : IsRange s.heap r a₀ b₀ 1 t₀ u₀ v₀) (hsmall : Builtin.Range.small a₀ b₀ 1 = true) (hn : Builtin.Range.rangeSize a₀ b₀ 1 = (((b₀ - a₀).toNat : Nat) : Int)) (F : Fr h₀ env.locals s.heap m₀) (N : News h₀ env.locals s.heap news) (hy : m₀ y = some (.float (G c) tc))
    (turn : ∀ (i : Nat) t ta h tk own, i < (b₀ - a₀).toNat → 29 * (i : Int) ≤ sm yy a₀ i → sm yy a₀ i ≤ 30 * (i : Int) → (mlen yy (a₀ + (i : Int)) = 29 ∨ mlen yy (a₀ + (i : Int)) = 30) → OwnOff own (news.map (·.1)) → Fr h₀ env.locals h (fun z => if z = x then some (.int (a₀ + (i : Int)) t) else if z = y then some (.float (G (c + 1024 * sm yy a₀ i)) ta) else m₀ z) → News h₀ env.locals h (news ++ own) →
      wpAny (model prog w) A (execs body env) (InvPostN h₀ env.locals (fun m' nx => nx = news ∧ (∃ t', m' y = some (.float (G (c + 1024 * sm yy a₀ i + 1024 * mlen yy (a₀ + (i : Int)))) t')) ∧ ∀ z, z ≠ x → z ≠ y → m' z = m₀ z) own (news.map (·.1)) { s with heap := h, toks := tk } Q) E { s with heap := h, toks := tk })
    (done : ∀ (u : Str → Option Value) t h tk, 29 * (((b₀ - a₀).toNat : Nat) : Int) ≤ sm yy a₀ (b₀ - a₀).toNat → sm yy a₀ (b₀ - a₀).toNat ≤ 30 * (((b₀ - a₀).toNat : Nat) : Int) → Fr h₀ env.locals h (fun z => if z = x then u z else if z = y then some (.float (G (c + 1024 * sm yy a₀ (b₀ - a₀).toNat)) t) else m₀ z) → News h₀ env.locals h news → Q .next { s with heap := h, toks := tk }) :
    wpAny (model prog w) A (pyIter (.ref r)) (fun it s₂ => LoopAtV prog w A h₀ env x body Q E it s₂) E s := by
  refine wpAny_pyIter_range hr hsmall ?_
  have W : Walks prog w A s.heap.objs.size [s.heap.objs.size] [s.heap.objs.size] (b₀ - a₀).toNat (fun i v => i < (b₀ - a₀).toNat ∧ ∃ t, v = .int (a₀ + i * 1) t)
      (fun i h => IsRangeIter h s.heap.objs.size (a₀ + (i : Nat) * 1) ((((b₀ - a₀).toNat : Nat) : Int) - (i : Nat)) 1) := (Walks.range hh _ a₀ 1 (b₀ - a₀).toNat).bound
  refine loop_invN (fun i m nx => nx = news ∧ (∃ t, m y = some (.float (G (c + 1024 * sm yy a₀ i)) t)) ∧ ∀ z, z ≠ x → z ≠ y → m z = m₀ z) W ?_ ?_ ?_ ?_ (by show IsRangeIter _ _ _ _ _; rw [hn]; simpa using Heap.get?_push_size _ rfl) (F.push _) (fun p hp => ⟨Heap.get?_push_of_some _ (N p hp).1, (N p hp).2⟩) ⟨rfl, ⟨tc, by rw [hy]; simp [sm]⟩, fun _ _ _ => rfl⟩ ?_ ?_
  · intro hm
    exact absurd F.ns.lt ((List.mem_singleton.mp hm) ▸ Nat.lt_irrefl _)
  · intro b hb
    rw [List.mem_singleton.mp hb]
    exact next_is_new F
  · intro p hp hI
    exact absurd (Heap.lt_size (N p hp).1) ((List.mem_singleton.mp hI) ▸ Nat.lt_irrefl _)
  · intro p hp hI
    exact absurd (Heap.lt_size (N p hp).1) ((List.mem_singleton.mp hI) ▸ Nat.lt_irrefl _)
  · rintro i v m₁ nx h tk own hi ⟨_, t, rfl⟩ _ hoff ⟨rfl, ⟨ta, ha⟩, hm⟩ F₁ N₁
    rw [map_one ha hm, Int.mul_one] at F₁
    have e : c + 1024 * sm yy a₀ (i + 1) = c + 1024 * sm yy a₀ i + 1024 * mlen yy (a₀ + (i : Int)) := by
      show c + 1024 * (sm yy a₀ i + mlen yy (a₀ + (i : Int))) = _
      omega
    rw [e]
    exact turn i t ta h tk own hi (sm_bnd yy a₀ i).1 (sm_bnd yy a₀ i).2 (mlen_bnd _ _) hoff F₁ N₁
  · rintro m₁ nx h tk ⟨rfl, ⟨t, ha⟩, hm⟩ F₁ N₁
    refine done m₁ t h tk (sm_bnd yy a₀ _).1 (sm_bnd yy a₀ _).2 ?_ N₁
    rw [done_one ha hm]; exact F₁
end
end Mine
end
section
set_option maxRecDepth 100000
namespace Mine
open PySem PySem.W PySem.Calls PyProof.Rows PySem.Flt
section
variable {prog : Program} {w : World} {A : Around} {E : Value → Shared → Prop} {s : Shared} {x y : UInt64} {a b n d : Int} {t u : Tok} {Q : Value → Shared → Prop}
/-- a float whose floor is n -/
def FlAt (x : UInt64) (n : Int) : Prop := Float64.isFinite x = true ∧ toInt Float64.floorOf x = n
theorem FlAt.G (ha : Ok a) (h : a / 1024 = n) : FlAt (G a) n := ⟨fin_G ha, by rw [floor_G ha]; exact h⟩
theorem r_floorN (hx : FlAt x n) (h : Q (.int n s.toks) { s with toks := s.toks + 1 }) : wpAny (model prog w) A (call (.builtin "math.floor") [.float x t]) Q E s := by
  refine r_floor hx.1 ?_
  rw [hx.2]; exact h
def Mc (a : Int) : UInt64 := Float64.mul (G (1024 * a)) (G (1024 * 98496))
def Dc (a : Int) : UInt64 := Float64.div (Mc a) (G (1024 * 35975351))
theorem r_mulc (hx : x = G a) (ha : a % 1024 = 0) (h : Q (.float (Mc (a / 1024)) s.toks) { s with toks := s.toks + 1 }) : wpAny (model prog w) A (binaryOp .Mult (.float x t) (.float 4681505006791163904 u)) Q E s := by
  subst hx
  refine mul_float ?_
  rw [c_98496]
  have e : 1024 * (a / 1024) = a := by omega
  unfold Mc at h
  rw [e] at h
  exact h
theorem r_divc (h : Q (.float (Dc a) s.toks) { s with toks := s.toks + 1 }) : wpAny (model prog w) A (binaryOp .Div (.float (Mc a) t) (.float 4720097339732131840 u)) Q E s := by
  refine AutoFloatOps.truediv_1 (by decide +kernel) ?_
  rw [c_weeks]
  exact h
theorem r_floorc (h1 : -4398046511104 < a) (h2 : a < 4398046511104) (h : ∀ c : Int, 35975351 * c < 98496 * a + 35975351 → 98496 * a < 35975351 * (c + 2) → Q (.int c s.toks) { s with toks := s.toks + 1 }) : wpAny (model prog w) A (call (.builtin "math.floor") [.float (Dc a) t]) Q E s := by
  have e := cnt h1 h2
  exact r_floor e.1 (h _ e.2.1 e.2.2)
end
section
variable {prog : Program} {w : World} {A : Around} {E : Value → Shared → Prop} {s : Shared} {t u : Tok} {Q : Value → Shared → Prop} {y m d N i j : Int}
theorem r_ge_w (f : FJ y m d N) (h1 : y - 6 ≤ i) (h2 : i ≤ y + 1) (h : Q (.bool (decide (i ≤ y))) s) : wpAny (model prog w) A (compareOp .GtE (.float (G (1024 * N + 512)) t) (.float (G (1024 * tr (ny i + 1) + 512)) u)) Q E s := by
  have b := f.bnd
  have y1 := f.y1
  have y2 := f.y2
  have c := ny_bnd (show -10000 < i by omega) (show i < 7300000000 by omega)
  have tf := tr_facts (ny i + 1)
  refine r_ge_ff rfl rfl (by unfold Ok; omega) (by unfold Ok; omega) ?_
  have e : decide (1024 * N + 512 ≥ 1024 * tr (ny i + 1) + 512) = decide (i ≤ y) := by
    have := f.year h2
    congr 1
    apply propext
    omega
  rw [e]; exact h
theorem dn_bnd {y m d : Int} (h1 : -951 ≤ y) (h2 : y < 7100000000) (h3 : 1 ≤ m) (h4 : m ≤ 13) (h5 : 0 ≤ d) (h6 : d ≤ 400) : 0 ≤ dn y m d ∧ dn y m d < 2670000401000 := by
  have a := ny_pos h1
  have b := ny_bnd (show -10000 < y by omega) (show y < 7300000000 by omega)
  have c := off_bnd h3 h4 (y := y)
  unfold dn; omega
theorem r_lt_w (f : FJ y m d N) (hj : j = y) (h : Q (.bool (decide (7 ≤ m))) s) : wpAny (model prog w) A (compareOp .Lt (.float (G (1024 * N + 512)) t) (.float (G (1024 * dn j 1 1 + 512)) u)) Q E s := by
  subst hj
  have b := f.bnd
  have y1 := f.y1
  have y2 := f.y2
  have c := dn_bnd (show -951 ≤ j by omega) (show j < 7100000000 by omega) (show (1 : Int) ≤ 1 by omega) (show (1 : Int) ≤ 13 by omega) (show (0 : Int) ≤ 1 by omega) (show (1 : Int) ≤ 400 by omega)
  refine r_lt_ff rfl rfl (by unfold Ok; omega) (by unfold Ok; omega) ?_
  have e : decide (1024 * N + 512 < 1024 * dn j 1 1 + 512) = decide (7 ≤ m) := by
    have := f.inYear
    congr 1
    apply propext
    omega
  rw [e]; exact h
theorem ym_le (y : Int) : ym y ≤ 13 ∧ 12 ≤ ym y := by unfold ym; split <;> omega
theorem r_gt_w (f : FJ y m d N) (hj : j = y) (h1 : 1 ≤ i) (h2 : i ≤ m) (h7 : 7 ≤ m → 7 ≤ i) (h : Q (.bool (decide (i < m))) s) : wpAny (model prog w) A (compareOp .Gt (.float (G (1024 * N + 512)) t) (.float (G (1024 * dn j i (mlen j i) + 512)) u)) Q E s := by
  subst hj
  have b := f.bnd
  have y1 := f.y1
  have y2 := f.y2
  have m2 := f.m2
  have hy := ym_le j
  have hl := mlen_bnd j i
  have c := dn_bnd (show -951 ≤ j by omega) (show j < 7100000000 by omega) h1 (show i ≤ 13 by omega) (show 0 ≤ mlen j i by omega) (show mlen j i ≤ 400 by omega)
  refine r_gt_ff rfl rfl (by unfold Ok; omega) (by unfold Ok; omega) ?_
  have e : decide (1024 * N + 512 > 1024 * dn j i (mlen j i) + 512) = decide (i < m) := by
    have := f.month h1 h2 h7
    congr 1
    apply propext
    omega
  rw [e]; exact h
theorem r_sub_w (f : FJ y m d N) (hj : j = y) (hi : i = m) (h : Q (.float (G (1024 * (d - 1))) s.toks) { s with toks := s.toks + 1 }) : wpAny (model prog w) A (binaryOp .Sub (.float (G (1024 * N + 512)) t) (.float (G (1024 * dn j i 1 + 512)) u)) Q E s := by
  subst hj; subst hi
  have b := f.bnd
  have y1 := f.y1
  have y2 := f.y2
  have m1 := f.m1
  have m2 := f.m2
  have d1 := f.d1
  have d2 := f.d2
  have hn := f.n
  have hy := ym_le j
  have hl := mlen_bnd j i
  have c := dn_bnd (show -951 ≤ j by omega) (show j < 7100000000 by omega) m1 (show i ≤ 13 by omega) (show (0 : Int) ≤ 1 by omega) (show (1 : Int) ≤ 400 by omega)
  have e : 1024 * N + 512 - (1024 * dn j i 1 + 512) = 1024 * (d - 1) := by
    unfold dn at *; omega
  refine r_sub_ff rfl rfl (by unfold Ok; omega) (by unfold Ok; omega) (by rw [e]; unfold Ok; omega) ?_
  rw [e]; exact h
end
section
variable {prog : Program} {w : World} {A : Around} {E : Value → Shared → Prop} {s : Shared} {t : Tok} {Q : Value → Shared → Prop} {x : Int}
theorem r_abs (h : ∀ (k : Int) (u : Tok) (tk : Nat), (0 ≤ x → k = x) → (x < 0 → k = -x) → Q (.int k u) { s with toks := tk }) : wpAny (model prog w) A (call (.builtin "abs") [.int x t]) Q E s :=
  call_abs_int fun u tk => h _ u tk (fun q => if_neg (by omega)) (fun q => if_pos q)
end
end Mine
end
section
set_option maxRecDepth 100000
namespace Mine
open PySem PySem.W PySem.Calls PyProof.Rows PyProof.V PySem.Spec PyProof.Rows.LCg

structure Low (news : List (Addr × Obj)) (a : Nat) : Prop where
  lt : ∀ p ∈ news, @LT.lt Nat _ p.1 a
theorem leN {a b : Nat} (h : a ≤ b) : a ≤ b := h
/-! the month's leaf as data -/
def daysD (lp ml : Nat) : List PyData := List.replicate lp PyData.none ++ (rangeKs 1 ml).map PyData.int ++ List.replicate 7 PyData.none
def rowD (lp ml j : Nat) : PyData := .list (((daysD lp ml).drop (7 * j)).take 7)
def calD (lp ml : Nat) : PyData := .list ((List.range ((lp + ml + 6) / 7)).map (rowD lp ml))
theorem calD_fin : ∀ lp ∈ List.range 7, ∀ ml ∈ [29, 30], SeqAt.shaped (calD lp ml) = true ∧ PyData.eqv (calD lp ml) (calD lp ml) = true := by decide +kernel
theorem calD_ok {lp ml : Nat} (h : lp < 7) (h' : ml = 29 ∨ ml = 30) : SeqAt.shaped (calD lp ml) = true ∧ PyData.eqv (calD lp ml) (calD lp ml) = true :=
  calD_fin lp (List.mem_range.mpr h) ml (by rcases h' with rfl | rfl <;> simp)
theorem car_rep (n : Nat) : CarriedAll (List.replicate n Value.none) (List.replicate n PyData.none) := by
  induction n with
  | zero => exact .nil
  | succ n ih => exact .cons .none ih
theorem car_app {vs ws : List Value} {ds es : List PyData} (h : CarriedAll vs ds) (h' : CarriedAll ws es) : CarriedAll (vs ++ ws) (ds ++ es) := by
  induction h with
  | nil => exact h'
  | cons c _ ih => exact .cons c ih
theorem car_drop {vs : List Value} {ds : List PyData} (h : CarriedAll vs ds) (n : Nat) : CarriedAll (vs.drop n) (ds.drop n) := by
  induction h generalizing n with
  | nil => simp; exact .nil
  | cons c r ih =>
    cases n with
    | zero => exact .cons c r
    | succ n => exact ih n
theorem car_take {vs : List Value} {ds : List PyData} (h : CarriedAll vs ds) (n : Nat) : CarriedAll (vs.take n) (ds.take n) := by
  induction h generalizing n with
  | nil => simp; exact .nil
  | cons c r ih =>
    cases n with
    | zero => exact .nil
    | succ n => exact .cons c (ih n)
/-- the objects of `all` bear the datum d at v -/
def Bears (all : List (Addr × Obj)) (v : Value) (d : PyData) : Prop := ∀ h : Heap, (∀ p ∈ all, h.get? p.1 = some p.2) → ∃ as, Reads h v d as
theorem Bears.reads {all : List (Addr × Obj)} {v : Value} {d : PyData} (b : Bears all v d) {h₀ h : Heap} {L : Addr} {news : List (Addr × Obj)} (N : News h₀ L h news) (s : ∀ p ∈ all, p ∈ news) : ∃ as, Reads h v d as :=
  b h fun p hp => (N p (s p hp)).1
theorem Bears.mono {all all' : List (Addr × Obj)} {v : Value} {d : PyData} (b : Bears all v d) (s : ∀ p ∈ all, p ∈ all') : Bears all' v d := fun h k => b h fun p hp => k p (s p hp)
inductive BearsAll (all : List (Addr × Obj)) : List Value → List PyData → Prop
  | nil : BearsAll all [] []
  | cons {v d vs ds} : Bears all v d → BearsAll all vs ds → BearsAll all (v :: vs) (d :: ds)
theorem BearsAll.reads {all : List (Addr × Obj)} {vs : List Value} {ds : List PyData} (b : BearsAll all vs ds) (h : Heap) (k : ∀ p ∈ all, h.get? p.1 = some p.2) : ∃ as, ReadsAll h vs ds as := by
  induction b with
  | nil => exact ⟨_, .nil⟩
  | cons b _ ih =>
    obtain ⟨as, h1⟩ := b h k
    obtain ⟨bs, h2⟩ := ih
    exact ⟨_, .cons h1 h2⟩
theorem BearsAll.mono {all all' : List (Addr × Obj)} {vs : List Value} {ds : List PyData} (b : BearsAll all vs ds) (s : ∀ p ∈ all, p ∈ all') : BearsAll all' vs ds := by
  induction b with
  | nil => exact .nil
  | cons b _ ih => exact .cons (b.mono s) ih
theorem BearsAll.snoc {all : List (Addr × Obj)} {vs : List Value} {ds : List PyData} {v : Value} {d : PyData} (b : BearsAll all vs ds) (h : Bears all v d) : BearsAll all (vs ++ [v]) (ds ++ [d]) := by
  induction b with
  | nil => exact .cons h .nil
  | cons b _ ih => exact .cons b ih
theorem bears_list {all : List (Addr × Obj)} {a : Addr} {vs : List Value} {n : Nat} {ds : List PyData} (hm : (a, listOf vs.toArray n) ∈ all) (b : BearsAll all vs ds) : Bears all (.ref a) (.list ds) := fun h k => by
  obtain ⟨as, r⟩ := b.reads h k
  exact ⟨_, .list (k _ hm) rfl rfl (by simpa using r)⟩
theorem bears_flat {all : List (Addr × Obj)} {a : Addr} {vs : List Value} {n : Nat} {ds : List PyData} (hm : (a, listOf vs.toArray n) ∈ all) (b : CarriedAll vs ds) : Bears all (.ref a) (.list ds) := fun h k =>
  ⟨_, .list (k _ hm) rfl rfl (b.reads h)⟩

section
variable {prog : Program} {w : World} {A : Around} {E : Value → Shared → Prop} {s : Shared} {h₀ : Heap} {L l b : Addr} {m : Str → Option Value} {news : List (Addr × Obj)} {x : Int} {u : Tok} {Q : Value → Shared → Prop}
theorem fold_none (k : Nat) : List.foldl (fun x1 x2 => x1 ++ x2) #[] (List.replicate k #[Value.none]) = (List.replicate k Value.none).toArray := by
  have : ∀ (k : Nat) (a : List Value), List.foldl (fun x1 x2 => x1 ++ x2) a.toArray (List.replicate k #[Value.none]) = (a ++ List.replicate k Value.none).toArray := by
    intro k
    induction k with
    | zero => intro a; simp
    | succ k ih =>
      intro a
      rw [List.replicate_succ, List.foldl_cons]
      have : a.toArray ++ #[Value.none] = (a ++ [Value.none]).toArray := by simp
      rw [this, ih]
      simp [List.replicate_succ]
  simpa using this k []
theorem r_mulN {n : Nat} (F : Fr h₀ L s.heap m) (N : News h₀ L s.heap news) (hm : (l, listOf [Value.none].toArray n) ∈ news) (hlo : 0 ≤ x) (hhi : x ≤ 64)
    (h : ∀ D h', Fr h₀ L h' m → News h₀ L h' ((D, listOf (List.replicate x.toNat Value.none).toArray 0) :: news) → (∀ p ∈ news, p.1 < D) → Q (.ref D) { s with heap := h' }) : wpAny (model prog w) A (binaryOp .Mult (.ref l) (.int x u)) Q E s :=
  mul_list (items := #[Value.none]) F N (N _ hm).1 (by omega) (by omega) (by simp; omega) fun h' F' N' => h _ h' F' (by
    rw [if_neg (by simp), fold_none] at N'; exact N') fun p hp => Heap.lt_size (N p hp).1
theorem r_mulNr {n : Nat} (F : Fr h₀ L s.heap m) (N : News h₀ L s.heap news) (hm : (l, listOf [Value.none].toArray n) ∈ news) (hlo : 0 ≤ x) (hhi : x ≤ 64)
    (h : ∀ D h', Fr h₀ L h' m → News h₀ L h' ((D, listOf (List.replicate x.toNat Value.none).toArray 0) :: news) → (∀ p ∈ news, p.1 < D) → Q (.ref D) { s with heap := h' }) : wpAny (model prog w) A (binaryOp .Mult (.int x u) (.ref l)) Q E s :=
  mul_list_r (items := #[Value.none]) F N (N _ hm).1 (by omega) (by omega) (by simp; omega) fun h' F' N' => h _ h' F' (by
    rw [if_neg (by simp), fold_none] at N'; exact N') fun p hp => Heap.lt_size (N p hp).1
theorem r_addL {vs ws : List Value} {n k : Nat} (F : Fr h₀ L s.heap m) (N : News h₀ L s.heap news) (hm : (l, listOf vs.toArray n) ∈ news) (hm' : (b, listOf ws.toArray k) ∈ news) (hz : vs.length + ws.length ≤ 256)
    (h : ∀ D h', Fr h₀ L h' m → News h₀ L h' ((D, listOf (vs ++ ws).toArray 0) :: news) → (∀ p ∈ news, p.1 < D) → Q (.ref D) { s with heap := h' }) : wpAny (model prog w) A (binaryOp .Add (.ref l) (.ref b)) Q E s :=
  add_lists (hsz := by rw [sizeLine_eq]; omega) F N ⟨_, (N _ hm).1, rfl, _, rfl⟩ ⟨_, (N _ hm').1, rfl, _, rfl⟩ fun h' F' N' => h _ h' F' N' fun p hp => Heap.lt_size (N p hp).1
end

section
variable {prog : Program} {w : World} {A : Around} {E : Value → Shared → Prop} {s : Shared} {h₀ : Heap} {L : Addr} {m : Str → Option Value} {env : Env}
def SrcW (prog : Program) (w : World) (A : Around) (h₀ : Heap) (L : Addr) (m : Str → Option Value) (env : Env) (elt : Expr) (x : Str) (scope : Scope) (cl : List (Str × Addr)) (Fin : Shared → List Value → List (Addr × Obj) → Prop) (xv : Value) (s₁ : Shared) : Prop :=
  ∃ r a b c t u v n news, xv = .ref r ∧ A.handled = none ∧ Fr h₀ L s₁.heap m ∧ News h₀ L s₁.heap news ∧ IsRange s₁.heap r a b c t u v ∧ Builtin.Range.small a b c = true ∧ Builtin.Range.rangeSize a b c = ((n : Nat) : Int) ∧ n ≤ sizeLine ∧
    ∀ s₂ : Shared, (∃ h, s₂ = { s₁ with heap := h }) → CompRest prog w A h₀ L m env elt x scope cl s₂ (fun _ => True) (fun i v => ∃ t, v = .int (a + (i : Int) * c) t) (Fin s₂) n 0 [] news
theorem range_walksW {I : Addr} (hh : A.handled = none) (a c : Int) (n : Nat) : Walks prog w A I [I] [I] n (fun i v => ∃ t, v = .int (a + (i : Int) * c) t) (fun i h => IsRangeIter h I (a + (i : Nat) * c) ((n : Int) - (i : Nat)) c) :=
  let W : Walks prog w A I [I] [I] n (fun i v => i < n ∧ ∃ t, v = .int (a + i * c) t) (fun i h => IsRangeIter h I (a + (i : Nat) * c) ((n : Int) - (i : Nat)) c) := (Walks.range hh I a c n).bound
  { sub := W.sub, frame := W.frame, done := W.done, self := W.self,
    item := fun i s Q E hi st hQ => W.item i s Q E hi st fun v h' tk hP => hQ v h' tk (by obtain ⟨_, t, rfl⟩ := hP; exact ⟨t, rfl⟩) }
theorem range_stW {I : Addr} {a c : Int} {n : Nat} : ∀ i (h h' : Heap) (o : Obj) (nw : List (Addr × Obj)), IsRangeIter h I (a + (i : Nat) * c) ((n : Int) - (i : Nat)) c → h.get? I = some o → h'.get? I = some o → (∀ b o, h₀.get? b = some o → h'.get? b = some o) → News h₀ L h' nw → True → IsRangeIter h' I (a + (i : Nat) * c) ((n : Int) - (i : Nat)) c :=
  fun i h h' o nw st e e' _ _ _ => by
    have st' : h.get? I = some _ := st
    show h'.get? I = some _
    rw [e', ← e]; exact st'
theorem ListComp_W {elt iter : Expr} {x : Str} {px : Pos} {scope : Scope} {cl : List (Str × Addr)} {pos : Pos} {Q : Value → Shared → Prop} (F₀ : Fr h₀ L s.heap m)
    (hclos : closureFor scope env = pure cl) (hcell : ∀ y ∈ scope.names, y.2 ≠ .cell) (hkind : scope.kind = .function)
    (hnames : ∀ y ∈ scope.names, y.2 = .local → scope.names.lookup y.1 = some .local) (hx : scope.names.lookup x = some .local)
    (h : wpAny (model prog w) A (eval iter env) (SrcW prog w A h₀ L m env elt x scope cl (fun s₂ => FinE h₀ L m s₂ Q)) E s)
    (hs : ∀ x, foldedSetIterable iter env x = pure x := by intro _; rfl) :
    wpAny (model prog w) A (eval (.ListComp elt [⟨.Name x px, iter, [], 0⟩] scope pos) env) Q E s := by
  rw [eval_ListComp]
  refine wpAny_comprehension_free (use := none) rfl hs hclos hkind hnames (wpAny_mono h (fun xv s₁ h₁ => ?_) fun _ _ e => e)
  obtain ⟨r, a, b, c, t, u, v, n, news, rfl, hh, F, N, hr, hsm, hn, hsz, R⟩ := h₁
  refine wpAny_pyIter_range hr hsm ?_
  refine block_U (range_walksW hh a c n) hsz (fun i h st => ⟨_, st⟩) range_stW hcell hkind hx (by show IsRangeIter _ _ _ _ _; rw [hn]; simpa using Heap.get?_push_size _ rfl) (fun b hb => ?_)
    (F.keeps fun _ _ e => Heap.get?_push_of_some _ e) (N.grown fun _ _ e => Heap.get?_push_of_some _ e) (Nat.ne_of_lt F.ns.lt) (next_is_new F) (fun p hp => Nat.ne_of_lt (Heap.lt_size (N p hp).1)) trivial (R _ ⟨_, rfl⟩) ?_
  · rw [List.mem_singleton.mp hb]
    show s₁.heap.objs.size < (s₁.heap.push _).objs.size
    rw [Heap.size_push]; exact Nat.lt_succ_self _
  · intro D C h tk m' ys news' F' N' o1 hn hC₀ hD₀ hCL hDL hCD offC fin
    refine ⟨m', hn, fun h'' hs'' => fin D h'' tk (F'.change hs'' hCL hC₀) (fun p hp => ?_) o1⟩
    refine ⟨hs''.extBut _ _ ?_ (N' p hp).1, (N' p hp).2⟩
    rcases List.mem_cons.mp hp with rfl | hp
    · exact Ne.symm hCD
    · exact offC p hp
/-- the turns of a comprehension by what holds between them -/
theorem rest_ind {elt : Expr} {x : Str} {scope : Scope} {cl : List (Str × Addr)} {S : List (Addr × Obj) → Prop} {P : Nat → Value → Prop} {Fin : List Value → List (Addr × Obj) → Prop} {n : Nat} (J : Nat → List Value → List (Addr × Obj) → Prop)
    (turn : ∀ i ys news v I oI C oC D m₂ h tk (E' : Value → Shared → Prop), i < n → J i ys news → P i v → NsObj oC m₂ → m₂ x = some v → Fr h₀ L h m → News h₀ L h ((I, oI) :: (C, oC) :: (D, lst ys) :: news) → Off3 I C D news → ((@Ne Nat I C) ∧ (@Ne Nat I D) ∧ (@Ne Nat C D)) →
      wpAny (model prog w) A (eval elt (compEnvC scope cl C env)) (CompEnd h₀ L m { s with heap := h, toks := tk } I oI C oC D (lst ys) S (fun y news' => J (i + 1) (ys ++ [y]) news')) E' { s with heap := h, toks := tk })
    (fin : ∀ ys news, J n ys news → Fin ys news) : ∀ (k i : Nat) (ys : List Value) (news : List (Addr × Obj)), i + k = n → J i ys news → CompRest prog w A h₀ L m env elt x scope cl s S P Fin k i ys news := by
  intro k
  induction k with
  | zero =>
    intro i ys news hi hJ
    refine CompRest.zero (fin ys news ?_)
    rw [show n = i by omega]; exact hJ
  | succ k ih =>
    intro i ys news hi hJ
    refine CompRest.succ ?_
    intro v I oI C oC D m₂ h tk E' hP hC hx F N off ne
    refine wpAny_mono (turn i ys news v I oI C oC D m₂ h tk E' (by omega) hJ hP hC hx F N off ne) (fun y s₂ p => ?_) fun _ _ e => e
    obtain ⟨h', tk', news', e, F', N', off', hS, hr⟩ := p
    exact ⟨h', tk', news', e, F', N', off', hS, ih (i + 1) (ys ++ [y]) news' (by omega) hr⟩
end
theorem pick_eq (l : List Value) (i : Nat) (h : 7 * i + 7 ≤ l.length) : kms_pick l (some (0 + (i : Int) * 7)) (some (0 + (i : Int) * 7 + 7)) = (l.drop (7 * i)).take 7 := by
  unfold kms_pick kms_lo kms_hi
  simp only
  rw [if_neg (by omega), if_neg (by omega)]
  have e1 : min (0 + (i : Int) * 7).toNat l.length = 7 * i := by omega
  have e2 : min (0 + (i : Int) * 7 + 7).toNat l.length = 7 * i + 7 := by omega
  rw [e1, e2]
  congr 1
  omega
theorem leaf_row {lp k ml i : Nat} {vs : List Value} (hI : IntsAre vs (rangeKs 1 k)) (hk : k = ml) (hi : i < (lp + ml + 6) / 7) :
    CarriedAll (kms_pick ((List.replicate lp Value.none ++ vs) ++ List.replicate 7 Value.none) (some (0 + (i : Int) * 7)) (some (0 + (i : Int) * 7 + 7))) (((daysD lp ml).drop (7 * i)).take 7) := by
  subst hk
  have hl := hI.length
  rw [rangeKs_length] at hl
  rw [pick_eq _ _ (by simp only [List.length_append, List.length_replicate, hl]; omega)]
  exact car_take (car_drop (car_app (car_app (car_rep _) (ke_carried hI)) (car_rep 7)) _) _
end Mine
end
section
set_option maxRecDepth 100000
namespace Mine
open PySem PySem.W PySem.Calls PyProof.Rows PySem.SeqAt
section
variable {A : Around} {s : Shared} {a n : Int} {t u : Tok}
theorem rcAt_if (ha : Ok a) : RcAt A s (.int n t) (.float (G a) u) (a == 1024 * n) := fun prog w E Q h => by
  have e : (Float64.cmpInt (G a) n == some Ordering.eq) = (a == 1024 * n) := by rw [cmpInt_G ha, some_beq, compare_eq]
  have : wpAny (model prog w) A (compareOp .Eq (.int n t) (.float (G a) u)) Q E s := eq_if (by rw [e]; exact h)
  exact this
theorem eqAt_if (ha : Ok a) : EqAt A s (.int n t) (.float (G a) u) (a == 1024 * n) := fun prog w E Q h => by
  unfold eqBool
  refine wpAny_holding ?_
  refine wpAny_ite_split (fun hab => absurd (eq_of_beq hab) nofun) (fun _ => ?_)
  exact wpAny_bind (rcAt_if ha prog w E _ (wpAny_truthy_bool h))
end
abbrev tupJ (vs : List Value) : Obj := { cls := .type "tuple", data := .seq vs.toArray }
inductive PairsIn (all : List (Addr × Obj)) (B : Addr → Prop) : List Value → List (Int × Int) → Prop
  | nil : PairsIn all B [] []
  | cons {a : Addr} {t u : Tok} {k k' : Int} {vs : List Value} {ks : List (Int × Int)} : (a, tupJ [Value.int k t, Value.int k' u]) ∈ all → B a → PairsIn all B vs ks → PairsIn all B (.ref a :: vs) ((k, k') :: ks)
def KindsIn (all : List (Addr × Obj)) (B : Addr → Prop) (l : Addr) (ks : List (Int × Int)) : Prop := ∃ vs n, (l, listOf vs.toArray n) ∈ all ∧ PairsIn all B vs ks
def pairOf (h : Heap) (f : Int → Int → Bool) : Value → Bool
  | .ref a => (match h.get? a with
    | some ⟨_, _, .seq vs _, _⟩ => (match (vs[0]? : Option Value), (vs[1]? : Option Value) with
      | some (Value.int x _), some (Value.int y _) => f x y
      | _, _ => false)
    | _ => false)
  | _ => false
section
variable {prog : Program} {w : World} {A : Around} {E : Value → Shared → Prop} {s : Shared} {h₀ : Heap} {L l tx : Addr} {news all : List (Addr × Obj)} {B : Addr → Prop} {ks : List (Int × Int)} {wd ln : Int} {t u : Tok} {Q : Value → Shared → Prop}
theorem pairs_any {vs : List Value} {f : Int → Int → Bool} (N : News h₀ L s.heap news) (S : ∀ p ∈ all, p ∈ news) (P : PairsIn all B vs ks) : vs.any (pairOf s.heap f) = ks.any fun k => f k.1 k.2 := by
  induction P with
  | nil => rfl
  | cons hm _ _ ih =>
    rw [List.any_cons, List.any_cons, ih]
    congr 1
    have := (N _ (S _ hm)).1
    unfold pairOf
    simp only
    rw [this]
    rfl
theorem pairs_mem {vs : List Value} (P : PairsIn all B vs ks) : ∀ y ∈ vs, ∃ a t u k1 k2, y = .ref a ∧ (a, tupJ [Value.int k1 t, Value.int k2 u]) ∈ all ∧ B a := by
  induction P with
  | nil => intro y hy; cases hy
  | cons hm hb _ ih =>
    intro y hy
    rcases List.mem_cons.mp hy with rfl | hy
    · exact ⟨_, _, _, _, _, rfl, hm, hb⟩
    · exact ih y hy
theorem r_notin_kinds (N : News h₀ L s.heap news) (K : KindsIn all B l ks) (S : ∀ p ∈ all, p ∈ news) (hx : (tx, tupJ [Value.int wd t, Value.float (G (1024 * ln)) u]) ∈ news) (hne : ∀ a, B a → a ≠ tx) (hok : Ok (1024 * ln)) (hu : A.units + 2 < cLine)
    (h : Q (.bool (!(ks.any fun k => k.1 == wd && k.2 == ln))) s) : wpAny (model prog w) A (compareOp .NotIn (.ref tx) (.ref l)) Q E s := by
  obtain ⟨vs, n, hl, P⟩ := K
  refine notIn_listAt (pairOf s.heap fun x y => x == wd && y == ln) (items := vs.toArray) ⟨_, (N _ (S _ hl)).1, rfl, _, rfl⟩ ?_ ?_
  · intro y hy
    obtain ⟨a, t1, u1, k1, k2, rfl, hm, hB⟩ := pairs_mem P y (by simpa using hy)
    have hg := (N _ (S _ hm)).1
    have hg2 := (N _ hx).1
    have e : pairOf s.heap (fun x y => x == wd && y == ln) (.ref a) = (k1 == wd && k2 == ln) := by
      unfold pairOf
      simp only
      rw [hg]
      rfl
    rw [e]
    refine EqAt.of_refs (hne _ hB) ?_
    have R := RcAt.tuples (A := A.in1) (s := s) (l := a) (b := tx) (items := [Value.int k1 t1, Value.int k2 u1].toArray) (items2 := [Value.int wd t, Value.float (G (1024 * ln)) u].toArray) (e := fun j => if j = 0 then k1 == wd else 1024 * ln == 1024 * k2)
      ⟨_, hg, rfl, _, rfl⟩ ⟨_, hg2, rfl, _, rfl⟩ (by show A.units + 1 < cLine; omega) (fun j h1 h2 => by
        match j, h1, h2 with
        | 0, _, _ => exact EqAt.int_int _ _ _ _
        | 1, _, _ => exact eqAt_if hok)
    have eb : ((List.range (min ([Value.int k1 t1, Value.int k2 u1].toArray).size ([Value.int wd t, Value.float (G (1024 * ln)) u].toArray).size)).all (fun j => if j = 0 then k1 == wd else 1024 * ln == 1024 * k2) && ([Value.int k1 t1, Value.int k2 u1].toArray).size == ([Value.int wd t, Value.float (G (1024 * ln)) u].toArray).size) = (k1 == wd && k2 == ln) := by
      have e1 : (1024 * ln == 1024 * k2) = (k2 == ln) := by
        rw [Bool.eq_iff_iff, beq_iff_eq, beq_iff_eq]; omega
      simp only [List.size_toArray, List.length_cons, List.length_nil, Nat.zero_add, Nat.reduceAdd, Nat.min_self]
      have : List.range 2 = [0, 1] := rfl
      rw [this]
      simp [e1]
    rw [eb] at R
    exact R
  · have : vs.toArray.any (pairOf s.heap fun x y => x == wd && y == ln) = ks.any fun k => k.1 == wd && k.2 == ln := by
      rw [← pairs_any (f := fun x y => x == wd && y == ln) N S P]; simp
    rw [this]; exact h
theorem r_notin_t3 {x : UInt64} {a n1 n2 n3 : Int} {t1 t2 t3 : Tok} (hx : x = G a) (ha : Ok a) (N : News h₀ L s.heap news) (hm : (l, tupJ [Value.int n1 t1, Value.int n2 t2, Value.int n3 t3]) ∈ news)
    (h : Q (.bool (!(a == 1024 * n1 || a == 1024 * n2 || a == 1024 * n3))) s) : wpAny (model prog w) A (compareOp .NotIn (.float x u) (.ref l)) Q E s := by
  subst hx
  refine notIn_tupleAt (fun y => match y with | .int n _ => a == 1024 * n | _ => false) (items := [Value.int n1 t1, Value.int n2 t2, Value.int n3 t3].toArray) ⟨_, (N _ hm).1, rfl, _, rfl⟩ ?_ ?_
  · intro y hy
    have hy' : y ∈ [Value.int n1 t1, Value.int n2 t2, Value.int n3 t3] := by simpa using hy
    rcases List.mem_cons.mp hy' with rfl | hy'
    · exact eqAt_if ha
    rcases List.mem_cons.mp hy' with rfl | hy'
    · exact eqAt_if ha
    rcases List.mem_cons.mp hy' with rfl | hy'
    · exact eqAt_if ha
    · cases hy'
  · simpa [Bool.or_assoc] using h
end
end Mine
end
section
set_option maxRecDepth 100000
namespace Mine
open PySem PySem.W PySem.Calls PyProof.Rows PySem.SeqAt
abbrev kinds14 : List (Int × Int) := [(0, 353), (5, 353), (0, 355), (3, 355), (5, 355), (1, 354), (3, 354), (0, 383), (3, 383), (5, 383), (0, 385), (3, 385), (5, 385), (1, 384)]
theorem gC_kinds (t2 t6 m : Int) : (gC t2 t6 m) ∈ kinds14 := by
  unfold gC; repeat' split
  all_goals simp
theorem gL_kinds (m : Int) : (gL m) ∈ kinds14 := by
  unfold gL; repeat' split
  all_goals simp
theorem gate_kinds (y m : Int) : (gate y m) ∈ kinds14 := by
  unfold gate; split
  · exact gL_kinds _
  · exact gC_kinds _ _ _
theorem kinds_small : ∀ k ∈ kinds14, 0 ≤ k.1 ∧ k.1 < 7 := by decide
theorem dn7 (y d : Int) : dn y 7 d = ny y + d := by unfold dn; rw [(off_hi y).1]; omega
theorem kinds_ok (y : Int) : (kinds14.any fun k => k.1 == (dn y 7 1 + 1) % 7 && k.2 == yl y) = true := by
  rw [dn7]
  have h := master y
  have g := gate_kinds y (mn y)
  have s := kinds_small _ g
  refine List.any_eq_true.mpr ⟨_, g, ?_⟩
  rw [h.2]
  have e : (ny y + 1 + 1) % 7 = (gate y (mn y)).1 := by unfold ny; omega
  rw [e]
  simp
theorem leap_yl (y : Int) : (370 < yl y → leapB y = true ∧ ym y = 13) ∧ (yl y ≤ 370 → leapB y = false ∧ ym y = 12) := by
  rcases ym_cases y with ⟨h, h'⟩ | ⟨h, h'⟩
  · have := yl_leap h
    exact ⟨fun _ => ⟨h, h'⟩, fun q => by omega⟩
  · have := yl_com h
    exact ⟨fun q => by omega, fun _ => ⟨h, h'⟩⟩
theorem f_leap {y : Int} (_ : -951 ≤ y) : (370 < yl y → ym y = 13) ∧ (yl y ≤ 370 → ym y = 12) := ⟨fun h => ((leap_yl y).1 h).2, fun h => ((leap_yl y).2 h).2⟩
theorem leap_dec (y : Int) : leapB y = decide (370 < yl y) := by
  by_cases h : 370 < yl y
  · rw [((leap_yl y).1 h).1, decide_eq_true h]
  · rw [((leap_yl y).2 (by omega)).1, decide_eq_false h]
section
variable {prog : Program} {w : World} {A : Around} {E : Value → Shared → Prop} {s : Shared} {h₀ : Heap} {L l tx : Addr} {news all : List (Addr × Obj)} {B : Addr → Prop} {y : Int} {t u : Tok} {Q : Value → Shared → Prop}
theorem r_kinds (N : News h₀ L s.heap news) (K : KindsIn all B l kinds14) (S : ∀ p ∈ all, p ∈ news) (hx : (tx, tupJ [Value.int ((dn y 7 1 + 1) % 7) t, Value.float (G (1024 * yl y)) u]) ∈ news) (hne : ∀ a, B a → a ≠ tx) (hu : A.units + 2 < cLine)
    (h : Q (.bool false) s) : wpAny (model prog w) A (compareOp .NotIn (.ref tx) (.ref l)) Q E s := by
  refine r_notin_kinds N K S hx hne (by have := yl_six y; unfold Ok; omega) hu ?_
  rw [kinds_ok y]; exact h
end
/-! the great cycle, and 247 years -/
theorem mo_cycle (y k : Int) : mo (y + 689472 * k) = mo y + 8527680 * k := by unfold mo; omega
theorem pt_cycle (y k : Int) : pt (y + 689472 * k) = pt y + 6527367685440 * k := by unfold pt; rw [mo_cycle]; omega
theorem leap_cycle (y k : Int) : leapB (y + 689472 * k) = leapB y := by
  unfold leapB
  rw [show (y + 689472 * k) * 7 + 1 = (y * 7 + 1) + 19 * (254016 * k) by omega, Int.add_mul_emod_self_left]
theorem wk_cycle (y k : Int) : wk (y + 689472 * k) = wk y + 35975351 * k ∧ mn (y + 689472 * k) = mn y := by
  unfold wk mn; rw [pt_cycle]; omega
theorem gate_cycle (y k m : Int) : gate (y + 689472 * k) m = gate y m := by
  unfold gate
  have e1 : y + 689472 * k - 1 = (y - 1) + 689472 * k := by omega
  have e2 : y + 689472 * k + 1 = (y + 1) + 689472 * k := by omega
  rw [leap_cycle, e1, leap_cycle, e2, leap_cycle]
theorem ny_cycle (y k : Int) : ny (y + 689472 * k) = ny y + 251827457 * k ∧ yl (y + 689472 * k) = yl y := by
  have a := master (y + 689472 * k)
  have b := master y
  have c := wk_cycle y k
  rw [c.2, gate_cycle] at a
  unfold ny
  omega
theorem mlen_cycle (y k m : Int) : mlen (y + 689472 * k) m = mlen y m := by unfold mlen; rw [(ny_cycle y k).2, leap_cycle]
theorem sm_cycle (y k a : Int) (n : Nat) : sm (y + 689472 * k) a n = sm y a n := by
  induction n with
  | zero => rfl
  | succ n ih => unfold sm; rw [ih, mlen_cycle]
theorem ym_cycle (y k : Int) : ym (y + 689472 * k) = ym y := by unfold ym; rw [leap_cycle]
theorem dn_cycle (y k m d : Int) : dn (y + 689472 * k) m d = dn y m d + 251827457 * k := by
  unfold dn off; rw [(ny_cycle y k).1, sm_cycle, sm_cycle, sm_cycle, ym_cycle]; omega
theorem mo_247 (y : Int) : mo (y + 247) = mo y + 3055 := by unfold mo; omega
theorem leap_add19 (y k : Int) : leapB (y + 19 * k) = leapB y := by
  unfold leapB
  rw [show (y + 19 * k) * 7 + 1 = (y * 7 + 1) + 19 * (7 * k) by omega, Int.add_mul_emod_self_left]
theorem gL_v0 (m : Int) (h' : m < 28571) : (gL m).1 = 0 := ((gL_facts m).1 h').1
theorem gL_v1 (m : Int) (h : 28571 ≤ m) (h' : m < 51840) : (gL m).1 = 0 := ((gL_facts m).2.1 h h').1
theorem gL_v2 (m : Int) (h : 51840 ≤ m) (h' : m < 77760) : (gL m).1 = 1 := ((gL_facts m).2.2.1 h h').1
theorem gL_v3 (m : Int) (h : 77760 ≤ m) (h' : m < 96815) : (gL m).1 = 3 := ((gL_facts m).2.2.2.1 h h').1
theorem gL_v4 (m : Int) (h : 96815 ≤ m) (h' : m < 129600) : (gL m).1 = 3 := ((gL_facts m).2.2.2.2.1 h h').1
theorem gL_v5 (m : Int) (h : 129600 ≤ m) (h' : m < 158171) : (gL m).1 = 5 := ((gL_facts m).2.2.2.2.2.1 h h').1
theorem gL_v6 (m : Int) (h : 158171 ≤ m) : (gL m).1 = 5 := ((gL_facts m).2.2.2.2.2.2 h).1
theorem gC_v0 {t2 t6 : Int} (a2 : 49189 ≤ t2) (b2 : t2 ≤ 51840) (a6 : 136488 ≤ t6) (b6 : t6 ≤ 146004) (m : Int) (h' : m < 16404) : (gC t2 t6 m).1 = 0 := ((gC_facts t2 t6 m).1 h').1
theorem gC_v1 {t2 t6 : Int} (a2 : 49189 ≤ t2) (b2 : t2 ≤ 51840) (a6 : 136488 ≤ t6) (b6 : t6 ≤ 146004) (m : Int) (h : 16404 ≤ m) (h' : m < t2) : (gC t2 t6 m).1 = 0 := ((gC_facts t2 t6 m).2.1 h h').1
theorem gC_v2 {t2 t6 : Int} (a2 : 49189 ≤ t2) (b2 : t2 ≤ 51840) (a6 : 136488 ≤ t6) (b6 : t6 ≤ 146004) (m : Int) (h : t2 ≤ m) (h' : m < 68244) : (gC t2 t6 m).1 = 1 := ((gC_facts t2 t6 m).2.2.1 (by omega) h h').1
theorem gC_v3 {t2 t6 : Int} (a2 : 49189 ≤ t2) (b2 : t2 ≤ 51840) (a6 : 136488 ≤ t6) (b6 : t6 ≤ 146004) (m : Int) (h : 68244 ≤ m) (h' : m < 120084) : (gC t2 t6 m).1 = 3 := ((gC_facts t2 t6 m).2.2.2.1 (by omega) (by omega) h h').1
theorem gC_v4 {t2 t6 : Int} (a2 : 49189 ≤ t2) (b2 : t2 ≤ 51840) (a6 : 136488 ≤ t6) (b6 : t6 ≤ 146004) (m : Int) (h : 120084 ≤ m) (h' : m < 129600) : (gC t2 t6 m).1 = 3 := ((gC_facts t2 t6 m).2.2.2.2.1 (by omega) h h').1
theorem gC_v5 {t2 t6 : Int} (a2 : 49189 ≤ t2) (b2 : t2 ≤ 51840) (a6 : 136488 ≤ t6) (b6 : t6 ≤ 146004) (m : Int) (h : 129600 ≤ m) (h' : m < t6) : (gC t2 t6 m).1 = 5 := ((gC_facts t2 t6 m).2.2.2.2.2.1 (by omega) h h').1
theorem gC_v6 {t2 t6 : Int} (a2 : 49189 ≤ t2) (b2 : t2 ≤ 51840) (a6 : 136488 ≤ t6) (b6 : t6 ≤ 146004) (m : Int) (h : t6 ≤ m) : (gC t2 t6 m).1 = 5 := ((gC_facts t2 t6 m).2.2.2.2.2.2 (by omega) (by omega) h).1
theorem gL_905 {m1 m2 : Int} (h0 : 0 ≤ m2) (h1 : 0 ≤ m1) (h2 : m1 < 181440) : (m1 = m2 - 905 → (gL m1).1 = (gL m2).1 ∨ (gL m1).1 = (gL m2).1 - 1 ∨ (gL m1).1 = (gL m2).1 - 2) ∧ (m1 = m2 + 180535 → (gL m1).1 = 5 ∧ (gL m2).1 = 0) := by
  constructor
  · intro e
    rcases (show m2 < 28571 ∨ (28571 ≤ m2 ∧ m2 < 51840) ∨ (51840 ≤ m2 ∧ m2 < 77760) ∨ (77760 ≤ m2 ∧ m2 < 96815) ∨ (96815 ≤ m2 ∧ m2 < 129600) ∨ (129600 ≤ m2 ∧ m2 < 158171) ∨ 158171 ≤ m2 by omega) with h | h | h | h | h | h | h
    · rw [gL_v0 m1 (by omega), gL_v0 m2 (by omega)]; omega
    · rw [gL_v1 m2 (by omega) (by omega)]
      rcases Int.lt_or_le m1 28571 with q | q
      · rw [gL_v0 m1 (by omega)]; omega
      · rw [gL_v1 m1 (by omega) (by omega)]; omega
    · rw [gL_v2 m2 (by omega) (by omega)]
      rcases Int.lt_or_le m1 51840 with q | q
      · rw [gL_v1 m1 (by omega) (by omega)]; omega
      · rw [gL_v2 m1 (by omega) (by omega)]; omega
    · rw [gL_v3 m2 (by omega) (by omega)]
      rcases Int.lt_or_le m1 77760 with q | q
      · rw [gL_v2 m1 (by omega) (by omega)]; omega
      · rw [gL_v3 m1 (by omega) (by omega)]; omega
    · rw [gL_v4 m2 (by omega) (by omega)]
      rcases Int.lt_or_le m1 96815 with q | q
      · rw [gL_v3 m1 (by omega) (by omega)]; omega
      · rw [gL_v4 m1 (by omega) (by omega)]; omega
    · rw [gL_v5 m2 (by omega) (by omega)]
      rcases Int.lt_or_le m1 129600 with q | q
      · rw [gL_v4 m1 (by omega) (by omega)]; omega
      · rw [gL_v5 m1 (by omega) (by omega)]; omega
    · rw [gL_v6 m2 (by omega)]
      rcases Int.lt_or_le m1 158171 with q | q
      · rw [gL_v5 m1 (by omega) (by omega)]; omega
      · rw [gL_v6 m1 (by omega)]; omega
  · intro e
    exact ⟨gL_v6 m1 (by omega), gL_v0 m2 (by omega)⟩
theorem gC_905 {t2 t6 m1 m2 : Int} (a2 : 49189 ≤ t2) (b2 : t2 ≤ 51840) (a6 : 136488 ≤ t6) (b6 : t6 ≤ 146004) (h0 : 0 ≤ m2) (h1 : 0 ≤ m1) (h2 : m1 < 181440) : (m1 = m2 - 905 → (gC t2 t6 m1).1 = (gC t2 t6 m2).1 ∨ (gC t2 t6 m1).1 = (gC t2 t6 m2).1 - 1 ∨ (gC t2 t6 m1).1 = (gC t2 t6 m2).1 - 2) ∧ (m1 = m2 + 180535 → (gC t2 t6 m1).1 = 5 ∧ (gC t2 t6 m2).1 = 0) := by
  constructor
  · intro e
    rcases (show m2 < 16404 ∨ (16404 ≤ m2 ∧ m2 < t2) ∨ (t2 ≤ m2 ∧ m2 < 68244) ∨ (68244 ≤ m2 ∧ m2 < 120084) ∨ (120084 ≤ m2 ∧ m2 < 129600) ∨ (129600 ≤ m2 ∧ m2 < t6) ∨ t6 ≤ m2 by omega) with h | h | h | h | h | h | h
    · rw [gC_v0 a2 b2 a6 b6 m1 (by omega), gC_v0 a2 b2 a6 b6 m2 (by omega)]; omega
    · rw [gC_v1 a2 b2 a6 b6 m2 (by omega) (by omega)]
      rcases Int.lt_or_le m1 16404 with q | q
      · rw [gC_v0 a2 b2 a6 b6 m1 (by omega)]; omega
      · rw [gC_v1 a2 b2 a6 b6 m1 (by omega) (by omega)]; omega
    · rw [gC_v2 a2 b2 a6 b6 m2 (by omega) (by omega)]
      rcases Int.lt_or_le m1 t2 with q | q
      · rw [gC_v1 a2 b2 a6 b6 m1 (by omega) (by omega)]; omega
      · rw [gC_v2 a2 b2 a6 b6 m1 (by omega) (by omega)]; omega
    · rw [gC_v3 a2 b2 a6 b6 m2 (by omega) (by omega)]
      rcases Int.lt_or_le m1 68244 with q | q
      · rw [gC_v2 a2 b2 a6 b6 m1 (by omega) (by omega)]; omega
      · rw [gC_v3 a2 b2 a6 b6 m1 (by omega) (by omega)]; omega
    · rw [gC_v4 a2 b2 a6 b6 m2 (by omega) (by omega)]
      rcases Int.lt_or_le m1 120084 with q | q
      · rw [gC_v3 a2 b2 a6 b6 m1 (by omega) (by omega)]; omega
      · rw [gC_v4 a2 b2 a6 b6 m1 (by omega) (by omega)]; omega
    · rw [gC_v5 a2 b2 a6 b6 m2 (by omega) (by omega)]
      rcases Int.lt_or_le m1 129600 with q | q
      · rw [gC_v4 a2 b2 a6 b6 m1 (by omega) (by omega)]; omega
      · rw [gC_v5 a2 b2 a6 b6 m1 (by omega) (by omega)]; omega
    · rw [gC_v6 a2 b2 a6 b6 m2 (by omega)]
      rcases Int.lt_or_le m1 t6 with q | q
      · rw [gC_v5 a2 b2 a6 b6 m1 (by omega) (by omega)]; omega
      · rw [gC_v6 a2 b2 a6 b6 m1 (by omega)]; omega
  · intro e
    exact ⟨gC_v6 a2 b2 a6 b6 m1 (by omega), gC_v0 a2 b2 a6 b6 m2 (by omega)⟩
theorem ny_247 (y : Int) : ny (y + 247) - ny y = 90216 ∨ ny (y + 247) - ny y = 90215 ∨ ny (y + 247) - ny y = 90214 := by
  have a := (master (y + 247)).1
  have b := (master y).1
  have hp : pt (y + 247) = pt y + 2338397815 := by unfold pt; rw [mo_247]; omega
  have g : ∀ m, gate (y + 247) m = gate y m := by
    intro m
    unfold gate
    rw [show y + 247 = y + 19 * 13 by omega, show y + 19 * 13 - 1 = (y - 1) + 19 * 13 by omega, show y + 19 * 13 + 1 = (y + 1) + 19 * 13 by omega, leap_add19, leap_add19, leap_add19]
  rw [g] at a
  have h1 : pt (y + 247) + 25920 = 181440 * wk (y + 247) + mn (y + 247) := by unfold wk mn; omega
  have h2 : pt y + 25920 = 181440 * wk y + mn y := by unfold wk mn; omega
  have h3 : 0 ≤ mn (y + 247) ∧ mn (y + 247) < 181440 := by unfold mn; omega
  have h4 : 0 ≤ mn y ∧ mn y < 181440 := by unfold mn; omega
  have hw : (wk (y + 247) = wk y + 12888 ∧ mn (y + 247) = mn y - 905) ∨ (wk (y + 247) = wk y + 12887 ∧ mn (y + 247) = mn y + 180535) := by omega
  have ho : (mn (y + 247) = mn y - 905 → (gate y (mn (y + 247))).1 = (gate y (mn y)).1 ∨ (gate y (mn (y + 247))).1 = (gate y (mn y)).1 - 1 ∨ (gate y (mn (y + 247))).1 = (gate y (mn y)).1 - 2) ∧
      (mn (y + 247) = mn y + 180535 → (gate y (mn (y + 247))).1 = 5 ∧ (gate y (mn y)).1 = 0) := by
    clear a b hp g h1 h2 hw
    generalize mn (y + 247) = m1 at *
    generalize mn y = m2 at *
    unfold gate
    split
    · exact gL_905 h4.1 h3.1 h3.2
    · refine gC_905 ?_ ?_ ?_ ?_ h4.1 h3.1 h3.2 <;> split <;> omega
  unfold ny
  clear hp g h1 h2 h3 h4
  omega
end Mine
end
section
set_option maxRecDepth 100000
namespace Mine
open PySem PySem.W PySem.Calls PyProof.Rows PyProof.V PySem.Spec PyProof.Rows.LCg
theorem yy_of {y : Int} (_ : -951 ≤ y) : YY y := trivial
theorem ints_snoc {vs : List Value} {ns : List Int} {n : Int} {t : Tok} (h : IntsAre vs ns) : IntsAre (vs ++ [Value.int n t]) (ns ++ [n]) := by
  induction h with
  | nil => exact .cons n t .nil
  | cons a ta _ ih => exact .cons a ta ih
theorem sum_app (l : List Int) (x : Int) : (l ++ [x]).sum = l.sum + x := by
  induction l with
  | nil => simp
  | cons a r ih => simp only [List.cons_append, List.sum_cons, ih]; omega
theorem sum_sm (y : Int) (n : Nat) : ((List.range n).map fun j : Nat => mlen y (1 + (j : Int))).sum = sm y 1 n := by
  induction n with
  | zero => rfl
  | succ n ih =>
    rw [List.range_succ, List.map_append, List.map_singleton, sum_app, ih]
    rfl
theorem months_sum (y : Int) : sm y 1 (ym y).toNat = yl y := by
  have f := ml_fix y
  have s := year_sum y
  obtain ⟨f1, f2, f3, f4, f5, f6, f7, f10, f11, f13⟩ := f
  rcases ym_cases y with ⟨h, h'⟩ | ⟨h, h'⟩
  · rw [h', s]; unfold upto; rw [if_pos h]
    show (0 : Int) + mlen y 1 + mlen y 2 + mlen y 3 + mlen y 4 + mlen y 5 + mlen y 6 + mlen y 7 + mlen y 8 + mlen y 9 + mlen y 10 + mlen y 11 + mlen y 12 + mlen y 13 = _
    omega
  · rw [h', s]; unfold upto; rw [h]; simp only [Bool.false_eq_true, if_false]
    show (0 : Int) + mlen y 1 + mlen y 2 + mlen y 3 + mlen y 4 + mlen y 5 + mlen y 6 + mlen y 7 + mlen y 8 + mlen y 9 + mlen y 10 + mlen y 11 + mlen y 12 = _
    omega
section
variable {prog : Program} {w : World} {A : Around} {E : Value → Shared → Prop} {s₁ : Shared} {h₀ : Heap} {L : Addr} {m : Str → Option Value} {env : Env}
def TurnPost (s : Shared) (h₀ : Heap) (L : Addr) (m : Str → Option Value) (led : List (Addr × Obj)) (n : Int) (v : Value) (s' : Shared) : Prop :=
  ∃ t h' tk', v = .int n t ∧ s' = { s with heap := h', toks := tk' } ∧ Fr h₀ L h' m ∧ News h₀ L h' led
theorem turnPost {s : Shared} {led : List (Addr × Obj)} {n n' : Int} {t : Tok} {h' : Heap} {tk' : Nat} (e : n = n') (F : Fr h₀ L h' m) (N : News h₀ L h' led) : TurnPost s h₀ L m led n' (.int n t) { s with heap := h', toks := tk' } := by
  subst e; exact ⟨t, h', tk', rfl, rfl, F, N⟩
theorem src_months {elt : Expr} {x : Str} {scope : Scope} {cl : List (Str × Addr)} {Q : Value → Shared → Prop} {r : Addr} {b y : Int} {t u v : Tok} {news : List (Addr × Obj)} (_ : YY y)
    (hh : A.handled = none) (F : Fr h₀ L s₁.heap m) (N : News h₀ L s₁.heap news) (hr : IsRange s₁.heap r 1 b 1 t u v) (hb : b = ym y + 1)
    (turn : ∀ (i : Nat) ys I oI C oC D m₂ h tk tv (E' : Value → Shared → Prop), 1 + (i : Int) ≤ 13 → m₂ x = some (.int (1 + (i : Int)) tv) → NsObj oC m₂ → Fr h₀ L h m → News h₀ L h ((I, oI) :: (C, oC) :: (D, lst ys) :: news) →
      wpAny (model prog w) A (eval elt (compEnvC scope cl C env)) (TurnPost { s₁ with heap := h, toks := tk } h₀ L m ((I, oI) :: (C, oC) :: (D, lst ys) :: news) (mlen y (1 + (i : Int)))) E' { s₁ with heap := h, toks := tk })
    (fin : ∀ D h tk ys ms, Fr h₀ L h m → News h₀ L h ((D, listOf (List.toArray ys) ys.length) :: news) → IntsAre ys ms → ms.sum = yl y → ms.length ≤ 13 → Q (.ref D) { s₁ with heap := h, toks := tk }) :
    SrcW prog w A h₀ L m env elt x scope cl (fun s₂ => FinE h₀ L m s₂ Q) (.ref r) s₁ := by
  have hy := ym_le y
  refine ⟨r, 1, b, 1, t, u, v, (ym y).toNat, news, rfl, hh, F, N, hr, ?_, ?_, ?_, ?_⟩
  · exact small_one (by decide) (by decide) (by omega) (by omega)
  · rw [rangeSize_nat]; omega
  · rw [sizeLine_eq]; omega
  rintro s₂ ⟨gg, rfl⟩
  refine rest_ind (fun i ys nw => nw = news ∧ IntsAre ys ((List.range i).map fun j : Nat => mlen y (1 + (j : Int)))) ?_ ?_ _ 0 [] news (Nat.zero_add _) ⟨rfl, .nil⟩
  · rintro i ys nw v I oI C oC D m₂ h tk E' hi ⟨rfl, hJ⟩ ⟨tv, rfl⟩ hC hx F1 N1 off ne
    rw [Int.mul_one] at hx
    refine wpAny_mono (turn i ys I oI C oC D m₂ h tk tv E' (by omega) hx hC F1 N1) (fun z s₃ p => ?_) fun _ _ e => e
    obtain ⟨t', h', tk', rfl, rfl, F2, N2⟩ := p
    refine LCg.CompEnd.intro F2 N2 nw (fun p hp => hp) off trivial ⟨rfl, ?_⟩
    rw [List.range_succ, List.map_append, List.map_singleton]
    exact ints_snoc hJ
  · rintro ys nw ⟨rfl, hJ⟩
    intro D h tk F1 N1 o1
    refine fin D h tk ys _ F1 N1 hJ ?_ (by rw [List.length_map, List.length_range]; omega)
    rw [sum_sm, months_sum]
end
section
variable {prog : Program} {w : World} {A : Around} {E : Value → Shared → Prop} {s : Shared} {h₀ : Heap} {L l a b : Addr} {news all1 all2 : List (Addr × Obj)} {y k m d p n v : Int} {t u t1 t2 t3 : Tok} {Q : Value → Shared → Prop}
theorem r_247 (N : News h₀ L s.heap news) (hm : (l, tupJ [Value.int 90216 t1, Value.int 90215 t2, Value.int 90214 t3]) ∈ news) (h : Q (.bool false) s) :
    wpAny (model prog w) A (compareOp .NotIn (.float (G (1024 * dn (y + 247) 7 1 + 512 - (1024 * dn y 7 1 + 512))) u) (.ref l)) Q E s := by
  have e := ny_247 y
  have e1 := dn7 (y + 247) 1
  have e2 := dn7 y 1
  refine r_notin_t3 rfl (by unfold Ok; omega) N hm ?_
  have : (1024 * dn (y + 247) 7 1 + 512 - (1024 * dn y 7 1 + 512) == 1024 * 90216 || 1024 * dn (y + 247) 7 1 + 512 - (1024 * dn y 7 1 + 512) == 1024 * 90215 || 1024 * dn (y + 247) 7 1 + 512 - (1024 * dn y 7 1 + 512) == 1024 * 90214) = true := by
    simp only [Bool.or_eq_true, beq_iff_eq]
    omega
  rw [this]; exact h
theorem r_modv (hd : 0 < v) (h : ∀ k : Int, 0 ≤ k → k < v → Q (.int k s.toks) { s with toks := s.toks + 1 }) : wpAny (model prog w) A (binaryOp .Mod (.int n t) (.int v u)) Q E s :=
  r_mod hd (h _ (Int.emod_nonneg _ (by omega)) (Int.emod_lt_of_pos _ hd))
theorem r_ne_cyc (h1 : Ok (1024 * dn (y + 689472 * k) m d + 512)) (h : Q (.bool false) s) :
    wpAny (model prog w) A (compareOp .NotEq (.float (G (1024 * dn (y + 689472 * k) m d + 512)) t) (.float (G (1024 * dn y m d + 512 + 1024 * (251827457 * k))) u)) Q E s := by
  have e : 1024 * dn y m d + 512 + 1024 * (251827457 * k) = 1024 * dn (y + 689472 * k) m d + 512 := by rw [dn_cycle]; omega
  rw [e]
  refine r_ne_ff rfl rfl h1 h1 ?_
  simpa using h
theorem fjL (h1 : 1 ≤ y) (h2 : y ≤ 100000001) (h3 : 1 ≤ k) (h4 : k ≤ 10000) (h5 : 1 ≤ m) (h6 : m ≤ ym y) (h7 : 1 ≤ d) (h8 : d ≤ mlen y m) : FJ (y + 689472 * k) m d (dn (y + 689472 * k) m d) :=
  ⟨by omega, by omega, h5, by rw [ym_cycle]; exact h6, h7, by rw [mlen_cycle]; exact h8, rfl⟩
theorem flL (f : FJ (y + 689472 * k) m d (dn (y + 689472 * k) m d)) (h9 : 0 ≤ p) (h10 : p < 512) : FlAt (G (1024 * dn y m d + 512 + 1024 * (251827457 * k) + p)) (dn (y + 689472 * k) m d) := by
  have b := f.bnd
  have e := dn_cycle y k m d
  refine FlAt.G (by unfold Ok; omega) (by omega)
theorem r_eq_cal {lp1 lp2 ml1 ml2 : Nat} (N : News h₀ L s.heap news) (B1 : Bears all1 (.ref a) (calD lp1 ml1)) (S1 : ∀ p ∈ all1, p ∈ news) (B2 : Bears all2 (.ref b) (calD lp2 ml2)) (S2 : ∀ p ∈ all2, p ∈ news) (e1 : lp1 = lp2) (e2 : ml1 = ml2) (h1 : lp2 < 7) (h2 : ml2 = 29 ∨ ml2 = 30)
    (hu : A.units + 64 < cLine) (h : Q (.bool true) s) : wpAny (model prog w) A (compareOp .Eq (.ref a) (.ref b)) Q E s := by
  subst e1; subst e2
  obtain ⟨as, r1⟩ := B1.reads N S1
  obtain ⟨bs, r2⟩ := B2.reads N S2
  have ok := calD_ok h1 h2
  refine eq_dataH r1 r2 ok.1 ok.1 hu ?_
  rw [ok.2]; exact h
theorem r_eq_law (N : News h₀ L s.heap news) (B1 : Bears all1 (.ref a) (calD (((dn (y + 689472 * k) m 1 + 1) % 7 + 1) % 7).toNat (mlen (y + 689472 * k) m).toNat)) (S1 : ∀ p ∈ all1, p ∈ news) (B2 : Bears all2 (.ref b) (calD (((dn y m 1 + 1) % 7 + 1) % 7).toNat (mlen y m).toNat)) (S2 : ∀ p ∈ all2, p ∈ news)
    (hu : A.units + 64 < cLine) (h : Q (.bool true) s) : wpAny (model prog w) A (compareOp .Eq (.ref a) (.ref b)) Q E s := by
  have hb := mlen_bnd y m
  refine r_eq_cal N B1 S1 B2 S2 ?_ (by rw [mlen_cycle]) (by omega) (by omega) hu h
  rw [dn_cycle]; congr 1; omega
end
end Mine
end
section
set_option maxRecDepth 100000
namespace Mine
/-! law 02: the almanac, in plain ints -/
abbrev long7 : List Int := [3, 6, 8, 11, 14, 17, 19]
abbrev leq (c : Int) : Int → Bool := fun k => decide (k ≤ c)
def cntL (gs : List Int) (c : Int) : Int := ((gs.filter (leq c)).length : Int)
theorem cntL_nil (c : Int) : cntL [] c = 0 := rfl
theorem cntL_cons (g : Int) (gs : List Int) (c : Int) : cntL (g :: gs) c = cntL gs c + (if g ≤ c then 1 else 0) := by
  unfold cntL leq
  rw [List.filter_cons]
  by_cases h : g ≤ c
  · simp [h]
  · simp [h]
theorem months_mo (y : Int) : 235 * ((y - 1) / 19) + 12 * ((y - 1) % 19) + cntL long7 ((y - 1) % 19) = mo y := by
  obtain ⟨k, r, h, hr⟩ := by19 (y - 1)
  have e1 : (y - 1) / 19 = k := by omega
  have e2 : (y - 1) % 19 = r := by omega
  have e3 : y = 19 * k + r + 1 := by omega
  rw [e1, e2, e3]
  unfold mo long7
  simp only [cntL_cons, cntL_nil]
  rcases hr with rfl | rfl | rfl | rfl | rfl | rfl | rfl | rfl | rfl | rfl | rfl | rfl | rfl | rfl | rfl | rfl | rfl | rfl | rfl <;> omega
abbrev longs : List (Int × Int) := [(0, 383), (0, 385), (1, 384), (3, 383), (3, 385), (5, 383), (5, 385)]
abbrev shorts : List (Int × Int) := [(0, 353), (0, 355), (1, 354), (3, 354), (3, 355), (5, 353), (5, 355)]
abbrev gsL : List Int := [0, 28571, 51840, 77760, 96815, 129600, 158171]
abbrev gsC (t2 t6 : Int) : List Int := [0, 16404, t2, 68244, 120084, 129600, t6]
theorem at_L {m g : Int} (h0 : 0 ≤ m) (hg : g = cntL (gsL) m - 1) : 0 ≤ g ∧ g < 7 ∧ longs[g.toNat]? = some (gL m) := by
  subst hg
  unfold gL
  simp only [cntL_cons, cntL_nil]
  rcases (show (0 ≤ m ∧ m < 28571) ∨ (28571 ≤ m ∧ m < 51840) ∨ (51840 ≤ m ∧ m < 77760) ∨ (77760 ≤ m ∧ m < 96815) ∨ (96815 ≤ m ∧ m < 129600) ∨ (129600 ≤ m ∧ m < 158171) ∨ 158171 ≤ m by omega) with h | h | h | h | h | h | h
  · rw [if_pos (show (0 : Int) ≤ m by omega), if_neg (show ¬ (28571 : Int) ≤ m by omega), if_neg (show ¬ (51840 : Int) ≤ m by omega), if_neg (show ¬ (77760 : Int) ≤ m by omega), if_neg (show ¬ (96815 : Int) ≤ m by omega), if_neg (show ¬ (129600 : Int) ≤ m by omega), if_neg (show ¬ (158171 : Int) ≤ m by omega)]
    rw [if_pos (show m < 28571 by omega)]
    exact ⟨by decide, by decide, by decide⟩
  · rw [if_pos (show (0 : Int) ≤ m by omega), if_pos (show (28571 : Int) ≤ m by omega), if_neg (show ¬ (51840 : Int) ≤ m by omega), if_neg (show ¬ (77760 : Int) ≤ m by omega), if_neg (show ¬ (96815 : Int) ≤ m by omega), if_neg (show ¬ (129600 : Int) ≤ m by omega), if_neg (show ¬ (158171 : Int) ≤ m by omega)]
    rw [if_neg (show ¬ m < 28571 by omega), if_pos (show m < 51840 by omega)]
    exact ⟨by decide, by decide, by decide⟩
  · rw [if_pos (show (0 : Int) ≤ m by omega), if_pos (show (28571 : Int) ≤ m by omega), if_pos (show (51840 : Int) ≤ m by omega), if_neg (show ¬ (77760 : Int) ≤ m by omega), if_neg (show ¬ (96815 : Int) ≤ m by omega), if_neg (show ¬ (129600 : Int) ≤ m by omega), if_neg (show ¬ (158171 : Int) ≤ m by omega)]
    rw [if_neg (show ¬ m < 28571 by omega), if_neg (show ¬ m < 51840 by omega), if_pos (show m < 77760 by omega)]
    exact ⟨by decide, by decide, by decide⟩
  · rw [if_pos (show (0 : Int) ≤ m by omega), if_pos (show (28571 : Int) ≤ m by omega), if_pos (show (51840 : Int) ≤ m by omega), if_pos (show (77760 : Int) ≤ m by omega), if_neg (show ¬ (96815 : Int) ≤ m by omega), if_neg (show ¬ (129600 : Int) ≤ m by omega), if_neg (show ¬ (158171 : Int) ≤ m by omega)]
    rw [if_neg (show ¬ m < 28571 by omega), if_neg (show ¬ m < 51840 by omega), if_neg (show ¬ m < 77760 by omega), if_pos (show m < 96815 by omega)]
    exact ⟨by decide, by decide, by decide⟩
  · rw [if_pos (show (0 : Int) ≤ m by omega), if_pos (show (28571 : Int) ≤ m by omega), if_pos (show (51840 : Int) ≤ m by omega), if_pos (show (77760 : Int) ≤ m by omega), if_pos (show (96815 : Int) ≤ m by omega), if_neg (show ¬ (129600 : Int) ≤ m by omega), if_neg (show ¬ (158171 : Int) ≤ m by omega)]
    rw [if_neg (show ¬ m < 28571 by omega), if_neg (show ¬ m < 51840 by omega), if_neg (show ¬ m < 77760 by omega), if_neg (show ¬ m < 96815 by omega), if_pos (show m < 129600 by omega)]
    exact ⟨by decide, by decide, by decide⟩
  · rw [if_pos (show (0 : Int) ≤ m by omega), if_pos (show (28571 : Int) ≤ m by omega), if_pos (show (51840 : Int) ≤ m by omega), if_pos (show (77760 : Int) ≤ m by omega), if_pos (show (96815 : Int) ≤ m by omega), if_pos (show (129600 : Int) ≤ m by omega), if_neg (show ¬ (158171 : Int) ≤ m by omega)]
    rw [if_neg (show ¬ m < 28571 by omega), if_neg (show ¬ m < 51840 by omega), if_neg (show ¬ m < 77760 by omega), if_neg (show ¬ m < 96815 by omega), if_neg (show ¬ m < 129600 by omega), if_pos (show m < 158171 by omega)]
    exact ⟨by decide, by decide, by decide⟩
  · rw [if_pos (show (0 : Int) ≤ m by omega), if_pos (show (28571 : Int) ≤ m by omega), if_pos (show (51840 : Int) ≤ m by omega), if_pos (show (77760 : Int) ≤ m by omega), if_pos (show (96815 : Int) ≤ m by omega), if_pos (show (129600 : Int) ≤ m by omega), if_pos (show (158171 : Int) ≤ m by omega)]
    rw [if_neg (show ¬ m < 28571 by omega), if_neg (show ¬ m < 51840 by omega), if_neg (show ¬ m < 77760 by omega), if_neg (show ¬ m < 96815 by omega), if_neg (show ¬ m < 129600 by omega), if_neg (show ¬ m < 158171 by omega)]
    exact ⟨by decide, by decide, by decide⟩
theorem at_C {t2 t6 m g : Int} (a1 : 16404 < t2) (a2 : t2 < 68244) (a3 : 129600 < t6) (h0 : 0 ≤ m) (hg : g = cntL (gsC t2 t6) m - 1) : 0 ≤ g ∧ g < 7 ∧ shorts[g.toNat]? = some (gC t2 t6 m) := by
  subst hg
  unfold gC
  simp only [cntL_cons, cntL_nil]
  rcases (show (0 ≤ m ∧ m < 16404) ∨ (16404 ≤ m ∧ m < t2) ∨ (t2 ≤ m ∧ m < 68244) ∨ (68244 ≤ m ∧ m < 120084) ∨ (120084 ≤ m ∧ m < 129600) ∨ (129600 ≤ m ∧ m < t6) ∨ t6 ≤ m by omega) with h | h | h | h | h | h | h
  · rw [if_pos (show (0 : Int) ≤ m by omega), if_neg (show ¬ (16404 : Int) ≤ m by omega), if_neg (show ¬ (t2 : Int) ≤ m by omega), if_neg (show ¬ (68244 : Int) ≤ m by omega), if_neg (show ¬ (120084 : Int) ≤ m by omega), if_neg (show ¬ (129600 : Int) ≤ m by omega), if_neg (show ¬ (t6 : Int) ≤ m by omega)]
    rw [if_pos (show m < 16404 by omega)]
    exact ⟨by decide, by decide, by decide⟩
  · rw [if_pos (show (0 : Int) ≤ m by omega), if_pos (show (16404 : Int) ≤ m by omega), if_neg (show ¬ (t2 : Int) ≤ m by omega), if_neg (show ¬ (68244 : Int) ≤ m by omega), if_neg (show ¬ (120084 : Int) ≤ m by omega), if_neg (show ¬ (129600 : Int) ≤ m by omega), if_neg (show ¬ (t6 : Int) ≤ m by omega)]
    rw [if_neg (show ¬ m < 16404 by omega), if_pos (show m < t2 by omega)]
    exact ⟨by decide, by decide, by decide⟩
  · rw [if_pos (show (0 : Int) ≤ m by omega), if_pos (show (16404 : Int) ≤ m by omega), if_pos (show (t2 : Int) ≤ m by omega), if_neg (show ¬ (68244 : Int) ≤ m by omega), if_neg (show ¬ (120084 : Int) ≤ m by omega), if_neg (show ¬ (129600 : Int) ≤ m by omega), if_neg (show ¬ (t6 : Int) ≤ m by omega)]
    rw [if_neg (show ¬ m < 16404 by omega), if_neg (show ¬ m < t2 by omega), if_pos (show m < 68244 by omega)]
    exact ⟨by decide, by decide, by decide⟩
  · rw [if_pos (show (0 : Int) ≤ m by omega), if_pos (show (16404 : Int) ≤ m by omega), if_pos (show (t2 : Int) ≤ m by omega), if_pos (show (68244 : Int) ≤ m by omega), if_neg (show ¬ (120084 : Int) ≤ m by omega), if_neg (show ¬ (129600 : Int) ≤ m by omega), if_neg (show ¬ (t6 : Int) ≤ m by omega)]
    rw [if_neg (show ¬ m < 16404 by omega), if_neg (show ¬ m < t2 by omega), if_neg (show ¬ m < 68244 by omega), if_pos (show m < 120084 by omega)]
    exact ⟨by decide, by decide, by decide⟩
  · rw [if_pos (show (0 : Int) ≤ m by omega), if_pos (show (16404 : Int) ≤ m by omega), if_pos (show (t2 : Int) ≤ m by omega), if_pos (show (68244 : Int) ≤ m by omega), if_pos (show (120084 : Int) ≤ m by omega), if_neg (show ¬ (129600 : Int) ≤ m by omega), if_neg (show ¬ (t6 : Int) ≤ m by omega)]
    rw [if_neg (show ¬ m < 16404 by omega), if_neg (show ¬ m < t2 by omega), if_neg (show ¬ m < 68244 by omega), if_neg (show ¬ m < 120084 by omega), if_pos (show m < 129600 by omega)]
    exact ⟨by decide, by decide, by decide⟩
  · rw [if_pos (show (0 : Int) ≤ m by omega), if_pos (show (16404 : Int) ≤ m by omega), if_pos (show (t2 : Int) ≤ m by omega), if_pos (show (68244 : Int) ≤ m by omega), if_pos (show (120084 : Int) ≤ m by omega), if_pos (show (129600 : Int) ≤ m by omega), if_neg (show ¬ (t6 : Int) ≤ m by omega)]
    rw [if_neg (show ¬ m < 16404 by omega), if_neg (show ¬ m < t2 by omega), if_neg (show ¬ m < 68244 by omega), if_neg (show ¬ m < 120084 by omega), if_neg (show ¬ m < 129600 by omega), if_pos (show m < t6 by omega)]
    exact ⟨by decide, by decide, by decide⟩
  · rw [if_pos (show (0 : Int) ≤ m by omega), if_pos (show (16404 : Int) ≤ m by omega), if_pos (show (t2 : Int) ≤ m by omega), if_pos (show (68244 : Int) ≤ m by omega), if_pos (show (120084 : Int) ≤ m by omega), if_pos (show (129600 : Int) ≤ m by omega), if_pos (show (t6 : Int) ≤ m by omega)]
    rw [if_neg (show ¬ m < 16404 by omega), if_neg (show ¬ m < t2 by omega), if_neg (show ¬ m < 68244 by omega), if_neg (show ¬ m < 120084 by omega), if_neg (show ¬ m < 129600 by omega), if_neg (show ¬ m < t6 by omega)]
    exact ⟨by decide, by decide, by decide⟩
theorem in_long (y : Int) : (long7.any fun x => x == (y - 1) % 19 + 1) = leapB y := by
  obtain ⟨k, r, h, hr⟩ := by19 (y - 1)
  have e2 : (y - 1) % 19 = r := by omega
  have e3 : y = 19 * k + r + 1 := by omega
  rw [e2, e3]
  unfold leapB
  rcases hr with rfl | rfl | rfl | rfl | rfl | rfl | rfl | rfl | rfl | rfl | rfl | rfl | rfl | rfl | rfl | rfl | rfl | rfl | rfl <;> simp <;> omega
theorem in_ahead (y : Int) (h' : leapB y = false) : (([2, 5, 10, 13, 16] : List Int).any fun x => x == (y - 1) % 19 + 1) = (leapB (y + 1) && !leapB (y - 1)) := by
  obtain ⟨k, r, h, hr⟩ := by19 (y - 1)
  have e2 : (y - 1) % 19 = r := by omega
  have e3 : y = 19 * k + r + 1 := by omega
  rw [e2]
  subst e3
  clear h e2
  unfold leapB at *
  rw [Bool.eq_iff_iff]
  simp only [Bool.and_eq_true, decide_eq_true_eq, decide_eq_false_iff_not, Bool.not_eq_true'] at *
  rcases hr with rfl | rfl | rfl | rfl | rfl | rfl | rfl | rfl | rfl | rfl | rfl | rfl | rfl | rfl | rfl | rfl | rfl | rfl | rfl <;> simp <;> omega
theorem in_between (y : Int) (h' : leapB y = false) : (([7, 18] : List Int).any fun x => x == (y - 1) % 19 + 1) = (leapB (y + 1) && leapB (y - 1)) := by
  obtain ⟨k, r, h, hr⟩ := by19 (y - 1)
  have e2 : (y - 1) % 19 = r := by omega
  have e3 : y = 19 * k + r + 1 := by omega
  rw [e2]
  subst e3
  clear h e2
  unfold leapB at *
  rw [Bool.eq_iff_iff]
  simp only [Bool.and_eq_true, decide_eq_true_eq, decide_eq_false_iff_not, Bool.not_eq_true'] at *
  rcases hr with rfl | rfl | rfl | rfl | rfl | rfl | rfl | rfl | rfl | rfl | rfl | rfl | rfl | rfl | rfl | rfl | rfl | rfl | rfl <;> simp <;> omega
theorem g_long {y : Int} (h : (long7.any fun x => x == (y - 1) % 19 + 1) = true) {c : Int} (hc : c = cntL gsL (mn y)) : 0 ≤ c - 1 ∧ c - 1 < 7 ∧ longs[(c - 1).toNat]? = some (gate y (mn y)) := by
  rw [in_long] at h
  unfold gate; rw [if_pos h]
  exact at_L (by unfold mn; omega) (by rw [hc])
theorem g_ahead {y : Int} (h : (long7.any fun x => x == (y - 1) % 19 + 1) = false) (h2 : (([2, 5, 10, 13, 16] : List Int).any fun x => x == (y - 1) % 19 + 1) = true) {c : Int} (hc : c = cntL (gsC 51840 146004) (mn y)) : 0 ≤ c - 1 ∧ c - 1 < 7 ∧ shorts[(c - 1).toNat]? = some (gate y (mn y)) := by
  rw [in_long] at h
  rw [in_ahead y h, Bool.and_eq_true, Bool.not_eq_true'] at h2
  unfold gate; rw [h, h2.1, h2.2]; simp only [Bool.false_eq_true, if_false, if_true]
  exact at_C (by omega) (by omega) (by omega) (by unfold mn; omega) (by rw [hc])
theorem g_between {y : Int} (h : (long7.any fun x => x == (y - 1) % 19 + 1) = false) (h3 : (([7, 18] : List Int).any fun x => x == (y - 1) % 19 + 1) = true) {c : Int} (hc : c = cntL (gsC 49189 146004) (mn y)) : 0 ≤ c - 1 ∧ c - 1 < 7 ∧ shorts[(c - 1).toNat]? = some (gate y (mn y)) := by
  rw [in_long] at h
  rw [in_between y h, Bool.and_eq_true] at h3
  unfold gate; rw [h, h3.1, h3.2]; simp only [Bool.false_eq_true, if_false, if_true]
  exact at_C (by omega) (by omega) (by omega) (by unfold mn; omega) (by rw [hc])
theorem g_behind {y : Int} (h : (long7.any fun x => x == (y - 1) % 19 + 1) = false) (h2 : (([2, 5, 10, 13, 16] : List Int).any fun x => x == (y - 1) % 19 + 1) = false) (h3 : (([7, 18] : List Int).any fun x => x == (y - 1) % 19 + 1) = false) {c : Int} (hc : c = cntL (gsC 49189 136488) (mn y)) : 0 ≤ c - 1 ∧ c - 1 < 7 ∧ shorts[(c - 1).toNat]? = some (gate y (mn y)) := by
  rw [in_long] at h
  rw [in_ahead y h] at h2
  rw [in_between y h] at h3
  have hp := leap_pat y
  unfold gate
  cases ha : leapB (y + 1) with
  | true => rw [ha] at h2 h3; cases hb : leapB (y - 1) <;> rw [hb] at h2 h3 <;> cases h2 <;> cases h3
  | false =>
    cases hb : leapB (y - 1) with
    | false => have := hp.2 h hb; rw [ha] at this; cases this
    | true =>
      rw [h]; simp only [Bool.false_eq_true, if_false, if_true]
      exact at_C (by omega) (by omega) (by omega) (by unfold mn; omega) (by rw [hc])
def monthsOf (y : Int) : List Int := if leapB y = true then [7, 8, 9, 10, 11, 12, 13, 1, 2, 3, 4, 5, 6] else [7, 8, 9, 10, 11, 12, 1, 2, 3, 4, 5, 6]
def rowsOf (y : Int) : List (Int × Int) := (monthsOf y).map fun m => (m, mlen y m)
theorem rowsOf_l {y : Int} (h : leapB y = true) : rowsOf y = [(7, 30), (8, if yl y % 10 = 5 then 30 else 29), (9, if yl y % 10 = 3 then 29 else 30), (10, 29), (11, 30), (12, 30), (13, 29), (1, 30), (2, 29), (3, 30), (4, 29), (5, 30), (6, 29)] := by
  unfold rowsOf monthsOf mlen
  rw [if_pos h]
  simp [h]
  try (split <;> simp_all)
theorem rowsOf_c {y : Int} (h : leapB y = false) : rowsOf y = [(7, 30), (8, if yl y % 10 = 5 then 30 else 29), (9, if yl y % 10 = 3 then 29 else 30), (10, 29), (11, 30), (12, 29), (1, 30), (2, 29), (3, 30), (4, 29), (5, 30), (6, 29)] := by
  unfold rowsOf monthsOf mlen
  rw [if_neg (by simp [h])]
  simp [h]
  try (split <;> simp_all)
end Mine
end
section
set_option maxRecDepth 100000
namespace Mine
open PySem PySem.W PySem.Calls PyProof.Rows PyProof.V PySem.Spec PyProof.Rows.LCg
section
variable {prog : Program} {w : World} {A : Around} {E : Value → Shared → Prop} {s : Shared} {h₀ : Heap} {L l : Addr} {m : Str → Option Value} {news : List (Addr × Obj)} {n d : Int} {t u : Tok} {Q : Value → Shared → Prop}
theorem r_divmod (F : Fr h₀ L s.heap m) (N : News h₀ L s.heap news) (hd : 0 < d)
    (h : ∀ D t1 t2 tk h', Fr h₀ L h' m → News h₀ L h' ((D, tupJ [Value.int (n / d) t1, Value.int (n % d) t2]) :: news) → (∀ p ∈ news, p.1 < D) → Q (.ref D) { s with heap := h', toks := tk })
    (hp : Builtin.divisionGoesByPylong n d = false ∨ PySem.PylongRoom (model prog w) A s) : wpAny (model prog w) A (call (.builtin "divmod") [.int n t, .int d u]) Q E s :=
  divmod_N F N (by omega) (fun h' F' N' => h _ _ _ _ _ F' (by
    rw [Int.fdiv_eq_ediv_of_nonneg _ (by omega), Int.fmod_eq_emod_of_nonneg _ (by omega)] at N'; exact N') fun p hp => Heap.lt_size (N p hp).1) hp
end
section
variable {prog : Program} {w : World} {A : Around} {E : Value → Shared → Prop} {s₁ : Shared} {h₀ : Heap} {L : Addr} {m : Str → Option Value} {env : Env}
def TestPost (s : Shared) (h₀ : Heap) (L : Addr) (m : Str → Option Value) (led : List (Addr × Obj)) (b : Bool) (v : Bool) (s' : Shared) : Prop :=
  ∃ h' tk', v = b ∧ s' = { s with heap := h', toks := tk' } ∧ Fr h₀ L h' m ∧ News h₀ L h' led
theorem testPost {s : Shared} {led : List (Addr × Obj)} {b v : Bool} {h' : Heap} {tk' : Nat} (e : v = b) (F : Fr h₀ L h' m) (N : News h₀ L h' led) : TestPost s h₀ L m led b v { s with heap := h', toks := tk' } :=
  ⟨h', tk', e, rfl, F, N⟩
theorem filt_rest {ct elt : Expr} {x : Str} {scope : Scope} {cl : List (Str × Addr)} {s : Shared} {S : List (Addr × Obj) → Prop} {Fin : List Value → List (Addr × Obj) → Prop} {news : List (Addr × Obj)} {vs : List Value} {ns : List Int} (p : Int → Bool) (hI : IntsAre vs ns) (hS : S news)
    (test : ∀ k t I oI C oC D m₂ ys h tk (E' : Value → Shared → Prop), NsObj oC m₂ → m₂ x = some (.int k t) → Fr h₀ L h m → News h₀ L h ((I, oI) :: (C, oC) :: (D, lst ys) :: news) →
      wpAny (model prog w) A (isTrue ct (compEnvC scope cl C env) (eval ct (compEnvC scope cl C env))) (TestPost { s with heap := h, toks := tk } h₀ L m ((I, oI) :: (C, oC) :: (D, lst ys) :: news) (p k)) E' { s with heap := h, toks := tk })
    (elem : ∀ k t I oI C oC D m₂ ys h tk (E' : Value → Shared → Prop), NsObj oC m₂ → m₂ x = some (.int k t) → Fr h₀ L h m → News h₀ L h ((I, oI) :: (C, oC) :: (D, lst ys) :: news) →
      wpAny (model prog w) A (eval elt (compEnvC scope cl C env)) (TurnPost { s with heap := h, toks := tk } h₀ L m ((I, oI) :: (C, oC) :: (D, lst ys) :: news) k) E' { s with heap := h, toks := tk })
    (fin : ∀ ys, IntsAre ys (ns.filter p) → Fin ys news) : LCt.CompRestT prog w A h₀ L m env ct elt x scope cl s S (fun i v => vs.toArray[i]? = some v) Fin vs.toArray.size 0 [] news := by
  have hlen : vs.toArray.size = ns.length := by rw [List.size_toArray]; exact hI.length
  have key : ∀ (j i : Nat) (ys : List Value), i + j = ns.length → IntsAre ys ((ns.take i).filter p) → LCt.CompRestT prog w A h₀ L m env ct elt x scope cl s S (fun i v => vs.toArray[i]? = some v) Fin j i ys news := by
    intro j
    induction j with
    | zero =>
      intro i ys hi hy
      rw [show i = ns.length by omega, List.take_length] at hy
      exact LCt.CompRestT.zero (fin ys hy)
    | succ j ih =>
      intro i ys hi hy
      refine LCt.CompRestT.succ ?_
      intro v I oI C oC D m₂ h tk E' hv hC hx F N off ne
      obtain ⟨t, hg⟩ := hI.get i ns[i] (by simp [show i < ns.length by omega])
      have hv' : v = .int ns[i] t := by
        have hv2 : vs[i]? = some v := by simpa using hv
        rw [hg] at hv2; exact (Option.some.inj hv2).symm
      subst hv'
      have hs : (ns.take (i + 1)).filter p = (ns.take i).filter p ++ (if p ns[i] = true then [ns[i]] else []) := by
        rw [List.take_add_one, List.filter_append, List.getElem?_eq_getElem (show i < ns.length by omega)]
        simp only [Option.toList_some, List.filter_cons, List.filter_nil]
      refine wpAny_mono (test ns[i] t I oI C oC D m₂ ys h tk E' hC hx F N) (fun b s₂ hq => ?_) fun _ _ e => e
      obtain ⟨h', tk', rfl, rfl, F2, N2⟩ := hq
      cases hb : p ns[i] with
      | true =>
        simp only [if_true]
        refine wpAny_mono (elem ns[i] t I oI C oC D m₂ ys h' tk' E' hC hx F2 N2) (fun z s₃ hz => ?_) fun _ _ e => e
        obtain ⟨t', h'', tk'', rfl, rfl, F3, N3⟩ := hz
        refine LCg.CompEnd.intro F3 N3 news (fun p hp => hp) off hS (ih (i + 1) _ (by omega) ?_)
        rw [hs, hb]
        exact ints_snoc hy
      | false =>
        simp only [Bool.false_eq_true, if_false]
        refine LCg.CompEnd.intro F2 N2 news (fun p hp => hp) off hS (ih (i + 1) _ (by omega) ?_)
        rw [hs, hb]
        simpa using hy
  rw [hlen]
  exact key ns.length 0 [] (by omega) (by simp only [List.take_zero, List.filter_nil]; exact .nil)
theorem src_filt {ct elt : Expr} {x : Str} {scope : Scope} {cl : List (Str × Addr)} {Q : Value → Shared → Prop} {r : Addr} {k : Nat} {vs : List Value} {ns : List Int} {news : List (Addr × Obj)} (p : Int → Bool) (hI : IntsAre vs ns)
    (hh : A.handled = none) (F : Fr h₀ L s₁.heap m) (N : News h₀ L s₁.heap news) (hm : h₀.IsList r vs.toArray ∨ (r, listOf vs.toArray k) ∈ news) (hz : ns.length ≤ 63)
    (test : ∀ k t I oI C oC D m₂ ys h tk (E' : Value → Shared → Prop), NsObj oC m₂ → m₂ x = some (.int k t) → Fr h₀ L h m → News h₀ L h ((I, oI) :: (C, oC) :: (D, lst ys) :: news) →
      wpAny (model prog w) A (isTrue ct (compEnvC scope cl C env) (eval ct (compEnvC scope cl C env))) (TestPost { s₁ with heap := h, toks := tk } h₀ L m ((I, oI) :: (C, oC) :: (D, lst ys) :: news) (p k)) E' { s₁ with heap := h, toks := tk })
    (elem : ∀ k t I oI C oC D m₂ ys h tk (E' : Value → Shared → Prop), NsObj oC m₂ → m₂ x = some (.int k t) → Fr h₀ L h m → News h₀ L h ((I, oI) :: (C, oC) :: (D, lst ys) :: news) →
      wpAny (model prog w) A (eval elt (compEnvC scope cl C env)) (TurnPost { s₁ with heap := h, toks := tk } h₀ L m ((I, oI) :: (C, oC) :: (D, lst ys) :: news) k) E' { s₁ with heap := h, toks := tk })
    (fin : ∀ D h tk ys, Fr h₀ L h m → News h₀ L h ((D, listOf (List.toArray ys) ys.length) :: news) → (((List.toArray ys).size : Nat) : Int) = ((ns.filter p).length : Int) → (((List.toArray ys).size : Nat) : Int) ≤ 63 → LCg.Off1 D news → Q (.ref D) { s₁ with heap := h, toks := tk }) :
    LCt.CompSrcT prog w A h₀ L m env ct elt x scope cl (fun s₂ => FinE h₀ L m s₂ Q) (.ref r) s₁ := by
  have hl := hI.length
  have fin' : ∀ ys, IntsAre ys (ns.filter p) → ∀ g, FinE h₀ L m { s₁ with heap := g } Q ys news := fun ys hy g D h tk F' N' o1 => by
    have h1 := hy.length
    have h2 : (ns.filter p).length ≤ ns.length := List.length_filter_le ..
    exact fin D h tk ys F' N' (by rw [List.size_toArray]; omega) (by rw [List.size_toArray]; omega) o1
  rcases hm with hm | hm
  · refine LCt.CompSrcT.base hh F N hm (by rw [List.size_toArray, sizeLine_eq]; omega) fun g => ?_
    exact filt_rest p hI (.inl hm) test elem fun ys hy => fin' ys hy g
  · refine LCt.CompSrcT.ledger hh F N hm (by rw [List.size_toArray, sizeLine_eq]; omega) fun g => ?_
    exact filt_rest p hI (.inr ⟨_, hm, rfl, _, rfl⟩) test elem fun ys hy => fin' ys hy g
end
def op (y : Int) : Int := (gate y (mn y)).1
theorem op_bnd (y : Int) : 0 ≤ op y ∧ op y < 7 := kinds_small _ (gate_kinds y (mn y))
theorem ny_op (y : Int) : ny y = 347996 + 7 * wk y + op y := by
  have := (master y).1
  unfold ny op; omega
theorem wk_mn (y : Int) : 181440 * wk y + mn y = 38004 + 765433 * mo y ∧ 0 ≤ mn y ∧ mn y < 181440 := by unfold wk mn pt; omega
theorem gate_op (y : Int) : gate y (mn y) = (op y, yl y) := by
  have := (master y).2
  unfold op; rw [this]
theorem pairs_at {all : List (Addr × Obj)} {B : Addr → Prop} {vs : List Value} {ks : List (Int × Int)} (P : PairsIn all B vs ks) : ∀ {i : Nat} {k k' : Int}, ks[i]? = some (k, k') → ∃ r t u, vs[i]? = some (.ref r) ∧ (r, tupJ [Value.int k t, Value.int k' u]) ∈ all ∧ B r := by
  induction P with
  | nil => intro i k k' h; simp at h
  | cons hm hb _ ih =>
    intro i k k' h
    cases i with
    | zero =>
      simp only [List.getElem?_cons_zero, Option.some.injEq, Prod.mk.injEq] at h
      obtain ⟨rfl, rfl⟩ := h
      exact ⟨_, _, _, rfl, hm, hb⟩
    | succ i =>
      simp only [List.getElem?_cons_succ] at h ⊢
      exact ih h
section
variable {prog : Program} {w : World} {A : Around} {E : Value → Shared → Prop} {s : Shared} {h₀ : Heap} {L a : Addr} {news : List (Addr × Obj)} {value slice : Expr} {ks : List (Int × Int)} {g y : Int} {u : Tok} {Q : Value → Shared → Prop}
theorem r_pick {all : List (Addr × Obj)} (_ : YY y) (N : News h₀ L s.heap (news ++ all)) (K : KindsIn all (fun a => ∀ p ∈ news, @LT.lt Nat _ p.1 a) a ks) (hg : 0 ≤ g ∧ g < 7 ∧ ks[g.toNat]? = some (gate y (mn y)))
    (h : ∀ r t u, News h₀ L s.heap ((r, tupJ [Value.int (op y) t, Value.int (yl y) u]) :: news) → (∀ p ∈ news, p.1 < r) → Q (.ref r) s)
    (hs : subscripted slice false (.ref a) (.int g u) = operate [.ref a, .int g u] (getItem (.ref a) (.int g u))) (hg' : ∀ r, letTemporaryGo value (.ref a) r = pure ()) :
    wpAny (model prog w) A (subscriptTail value slice (.ref a) (.int g u)) Q E s := by
  obtain ⟨vs, n, hm, P⟩ := K
  obtain ⟨h0, h1, hk⟩ := hg
  rw [gate_op] at hk
  obtain ⟨r, t, u', hr, hm', hb⟩ := pairs_at P hk
  refine kim_list (lo := listOf vs.toArray n) (l := vs) N (List.mem_append.mpr (.inr hm)) rfl rfl h0 (by omega) hr (h r t u' ?_ hb) hs hg'
  intro p hp
  rcases List.mem_cons.mp hp with rfl | hp
  · exact N _ (List.mem_append.mpr (.inr hm'))
  · exact N p (List.mem_append.mpr (.inl hp))
end
section
variable {prog : Program} {w : World} {A : Around} {E : Value → Shared → Prop} {s₁ : Shared} {h₀ : Heap} {L : Addr} {m : Str → Option Value} {env : Env} {ct elt : Expr} {x : Str} {scope : Scope} {cl : List (Str × Addr)} {Q : Value → Shared → Prop} {r : Addr} {kq : Nat} {vs : List Value} {ns : List Int} {news : List (Addr × Obj)} {y : Int}
theorem src_filt1 (_ : YY y) (hI : IntsAre vs long7)
    (hh : A.handled = none) (F : Fr h₀ L s₁.heap m) (N : News h₀ L s₁.heap ((r, listOf vs.toArray kq) :: news))
    (test : ∀ k t I oI C oC D m₂ ys h tk (E' : Value → Shared → Prop), NsObj oC m₂ → m₂ x = some (.int k t) → Fr h₀ L h m → News h₀ L h ((I, oI) :: (C, oC) :: (D, lst ys) :: (r, listOf vs.toArray kq) :: news) →
      wpAny (model prog w) A (isTrue ct (compEnvC scope cl C env) (eval ct (compEnvC scope cl C env))) (TestPost { s₁ with heap := h, toks := tk } h₀ L m ((I, oI) :: (C, oC) :: (D, lst ys) :: (r, listOf vs.toArray kq) :: news) (decide (k ≤ (y - 1) % 19))) E' { s₁ with heap := h, toks := tk })
    (elem : ∀ k t I oI C oC D m₂ ys h tk (E' : Value → Shared → Prop), NsObj oC m₂ → m₂ x = some (.int k t) → Fr h₀ L h m → News h₀ L h ((I, oI) :: (C, oC) :: (D, lst ys) :: (r, listOf vs.toArray kq) :: news) →
      wpAny (model prog w) A (eval elt (compEnvC scope cl C env)) (TurnPost { s₁ with heap := h, toks := tk } h₀ L m ((I, oI) :: (C, oC) :: (D, lst ys) :: (r, listOf vs.toArray kq) :: news) k) E' { s₁ with heap := h, toks := tk })
    (fin : ∀ D h tk ys, Fr h₀ L h m → News h₀ L h ((D, listOf (List.toArray ys) ys.length) :: news) → 235 * ((y - 1) / 19) + 12 * ((y - 1) % 19) + (((List.toArray ys).size : Nat) : Int) = mo y → (((List.toArray ys).size : Nat) : Int) ≤ 63 → LCg.Off1 D news → Q (.ref D) { s₁ with heap := h, toks := tk }) :
    LCt.CompSrcT prog w A h₀ L m env ct elt x scope cl (fun s₂ => FinE h₀ L m s₂ Q) (.ref r) s₁ :=
  src_filt (leq ((y - 1) % 19)) hI hh F N (.inr (.head _)) (by decide) test elem fun D h tk ys F' N' h1 h2 h3 => fin D h tk ys F' (fun p hp => N' p ((List.mem_cons.mp hp).elim (fun q => q ▸ .head _) fun q => .tail _ (.tail _ q))) (by
    have := months_mo y
    unfold cntL at this; omega) h2 h3.2
theorem src_filt2 {K : Frag} {dd : Option Addr} {sl : Array (Option Value)} (_ : YY y) (hI : IntsAre vs ns)
    (hh : A.handled = none) (F : Fr h₀ L s₁.heap m) (N : News h₀ L s₁.heap news) (X₀ : K.In h₀) (hl : K.lookup r = some ⟨.type "list", dd, .seq vs.toArray kq, sl⟩) (hz : ns.length ≤ 63)
    (test : ∀ k t I oI C oC D m₂ ys h tk (E' : Value → Shared → Prop), NsObj oC m₂ → m₂ x = some (.int k t) → Fr h₀ L h m → News h₀ L h ((I, oI) :: (C, oC) :: (D, lst ys) :: news) →
      wpAny (model prog w) A (isTrue ct (compEnvC scope cl C env) (eval ct (compEnvC scope cl C env))) (TestPost { s₁ with heap := h, toks := tk } h₀ L m ((I, oI) :: (C, oC) :: (D, lst ys) :: news) (decide (k ≤ mn y))) E' { s₁ with heap := h, toks := tk })
    (elem : ∀ k t I oI C oC D m₂ ys h tk (E' : Value → Shared → Prop), NsObj oC m₂ → m₂ x = some (.int k t) → Fr h₀ L h m → News h₀ L h ((I, oI) :: (C, oC) :: (D, lst ys) :: news) →
      wpAny (model prog w) A (eval elt (compEnvC scope cl C env)) (TurnPost { s₁ with heap := h, toks := tk } h₀ L m ((I, oI) :: (C, oC) :: (D, lst ys) :: news) k) E' { s₁ with heap := h, toks := tk })
    (fin : ∀ D h tk ys, Fr h₀ L h m → News h₀ L h ((D, listOf (List.toArray ys) ys.length) :: news) → (((List.toArray ys).size : Nat) : Int) = cntL ns (mn y) → (((List.toArray ys).size : Nat) : Int) ≤ 63 → LCg.Off1 D news → Q (.ref D) { s₁ with heap := h, toks := tk }) :
    LCt.CompSrcT prog w A h₀ L m env ct elt x scope cl (fun s₂ => FinE h₀ L m s₂ Q) (.ref r) s₁ :=
  src_filt (k := 0) (leq (mn y)) hI hh F N (.inl ⟨_, X₀ _ _ hl, rfl, _, rfl⟩) hz test elem fun D h tk ys F' N' h1 h2 h3 => fin D h tk ys F' N' h1 h2 h3
end
theorem lt_mem {l : List (Addr × Obj)} {a D : Addr} {o : Obj} (h : ∀ p ∈ l, p.1 < D) (m : (a, o) ∈ l) : @LT.lt Nat _ a D := h _ m
theorem ne_mem {l : List (Addr × Obj)} {a D : Addr} {o : Obj} (h : ∀ p ∈ l, p.1 < D) (m : (a, o) ∈ l) : @Ne Nat D a := Nat.ne_of_gt (lt_mem h m)
theorem ne_mem' {l : List (Addr × Obj)} {a D : Addr} {o : Obj} (h : ∀ p ∈ l, p.1 < D) (m : (a, o) ∈ l) : @Ne Nat a D := Nat.ne_of_lt (lt_mem h m)
theorem all_ne {l : List (Addr × Obj)} {D : Addr} (h : ∀ p ∈ l, p.1 < D) : ∀ p ∈ l, p.1 ≠ D := fun p hp => Nat.ne_of_lt (h p hp)
theorem whl_split {p : Prop} [Decidable p] {T F : Prop} (t : p → T) (f : ¬ p → F) : WhlIf (decide p) T F := by
  by_cases h : p
  · exact WhlIf.yes (decide_eq_true h) (t h)
  · exact WhlIf.no (decide_eq_false h) (f h)
section
variable {prog : Program} {w : World} {A : Around} {E : Value → Shared → Prop} {s : Shared} {h₀ : Heap} {L l : Addr} {news : List (Addr × Obj)} {vs : List Value} {n : Nat} {y : Int} {t : Tok} {Q : Value → Shared → Prop}
structure IsB (b : Bool) : Prop where
  h : b = true
structure NotB (b : Bool) : Prop where
  h : b = false
theorem splitB {b : Bool} {s : Shared} {Q : Value → Shared → Prop} (h1 : IsB b → Q (.bool true) s) (h2 : NotB b → Q (.bool false) s) : Q (.bool b) s := by
  cases b with
  | true => exact h1 ⟨rfl⟩
  | false => exact h2 ⟨rfl⟩
theorem r_in_long_t (N : News h₀ L s.heap ((l, listOf vs.toArray n) :: news)) (hI : IntsAre vs [3, 6, 8, 11, 14, 17, 19]) (hv : IsB (leapB y)) (h : News h₀ L s.heap news → Q (.bool true) s) : wpAny (model prog w) A (compareOp .In (.int ((y - 1) % 19 + 1) t) (.ref l)) Q E s := by
  refine in_list_ints (News.isList N (.head _)) hI ?_
  rw [show ([3, 6, 8, 11, 14, 17, 19] : List Int).any (fun x => x == (y - 1) % 19 + 1) = _ from in_long y, hv.h]
  exact h fun p hp => N p (.tail _ hp)
theorem r_in_ahead_t (N : News h₀ L s.heap ((l, listOf vs.toArray n) :: news)) (hI : IntsAre vs [2, 5, 10, 13, 16]) (hl : NotB (leapB y)) (hv : IsB (leapB (y + 1) && !leapB (y - 1))) (h : News h₀ L s.heap news → Q (.bool true) s) : wpAny (model prog w) A (compareOp .In (.int ((y - 1) % 19 + 1) t) (.ref l)) Q E s := by
  refine in_list_ints (News.isList N (.head _)) hI ?_
  rw [show ([2, 5, 10, 13, 16] : List Int).any (fun x => x == (y - 1) % 19 + 1) = _ from in_ahead y hl.h, hv.h]
  exact h fun p hp => N p (.tail _ hp)
theorem r_in_between_t (N : News h₀ L s.heap ((l, listOf vs.toArray n) :: news)) (hI : IntsAre vs [7, 18]) (hl : NotB (leapB y)) (hv : IsB (leapB (y + 1) && leapB (y - 1))) (h : News h₀ L s.heap news → Q (.bool true) s) : wpAny (model prog w) A (compareOp .In (.int ((y - 1) % 19 + 1) t) (.ref l)) Q E s := by
  refine in_list_ints (News.isList N (.head _)) hI ?_
  rw [show ([7, 18] : List Int).any (fun x => x == (y - 1) % 19 + 1) = _ from in_between y hl.h, hv.h]
  exact h fun p hp => N p (.tail _ hp)
theorem r_in_long_f (N : News h₀ L s.heap ((l, listOf vs.toArray n) :: news)) (hI : IntsAre vs [3, 6, 8, 11, 14, 17, 19]) (hv : NotB (leapB y)) (h : News h₀ L s.heap news → Q (.bool false) s) : wpAny (model prog w) A (compareOp .In (.int ((y - 1) % 19 + 1) t) (.ref l)) Q E s := by
  refine in_list_ints (News.isList N (.head _)) hI ?_
  rw [show ([3, 6, 8, 11, 14, 17, 19] : List Int).any (fun x => x == (y - 1) % 19 + 1) = _ from in_long y, hv.h]
  exact h fun p hp => N p (.tail _ hp)
theorem r_in_ahead_f (N : News h₀ L s.heap ((l, listOf vs.toArray n) :: news)) (hI : IntsAre vs [2, 5, 10, 13, 16]) (hl : NotB (leapB y)) (hv : NotB (leapB (y + 1) && !leapB (y - 1))) (h : News h₀ L s.heap news → Q (.bool false) s) : wpAny (model prog w) A (compareOp .In (.int ((y - 1) % 19 + 1) t) (.ref l)) Q E s := by
  refine in_list_ints (News.isList N (.head _)) hI ?_
  rw [show ([2, 5, 10, 13, 16] : List Int).any (fun x => x == (y - 1) % 19 + 1) = _ from in_ahead y hl.h, hv.h]
  exact h fun p hp => N p (.tail _ hp)
theorem r_in_between_f (N : News h₀ L s.heap ((l, listOf vs.toArray n) :: news)) (hI : IntsAre vs [7, 18]) (hl : NotB (leapB y)) (hv : NotB (leapB (y + 1) && leapB (y - 1))) (h : News h₀ L s.heap news → Q (.bool false) s) : wpAny (model prog w) A (compareOp .In (.int ((y - 1) % 19 + 1) t) (.ref l)) Q E s := by
  refine in_list_ints (News.isList N (.head _)) hI ?_
  rw [show ([7, 18] : List Int).any (fun x => x == (y - 1) % 19 + 1) = _ from in_between y hl.h, hv.h]
  exact h fun p hp => N p (.tail _ hp)
theorem p_long {y : Int} (h : IsB (leapB y)) {c : Int} (hc : c = cntL gsL (mn y)) : 0 ≤ c - 1 ∧ c - 1 < 7 ∧ longs[(c - 1).toNat]? = some (gate y (mn y)) := g_long (by rw [in_long]; exact h.h) hc
theorem p_ahead {y : Int} (h : NotB (leapB y)) (h2 : IsB (leapB (y + 1) && !leapB (y - 1))) {c : Int} (hc : c = cntL (gsC 51840 146004) (mn y)) : 0 ≤ c - 1 ∧ c - 1 < 7 ∧ shorts[(c - 1).toNat]? = some (gate y (mn y)) := g_ahead (by rw [in_long]; exact h.h) (by rw [in_ahead y h.h]; exact h2.h) hc
theorem p_between {y : Int} (h : NotB (leapB y)) (h3 : IsB (leapB (y + 1) && leapB (y - 1))) {c : Int} (hc : c = cntL (gsC 49189 146004) (mn y)) : 0 ≤ c - 1 ∧ c - 1 < 7 ∧ shorts[(c - 1).toNat]? = some (gate y (mn y)) := g_between (by rw [in_long]; exact h.h) (by rw [in_between y h.h]; exact h3.h) hc
theorem p_behind {y : Int} (h : NotB (leapB y)) (h2 : NotB (leapB (y + 1) && !leapB (y - 1))) (h3 : NotB (leapB (y + 1) && leapB (y - 1))) {c : Int} (hc : c = cntL (gsC 49189 136488) (mn y)) : 0 ≤ c - 1 ∧ c - 1 < 7 ∧ shorts[(c - 1).toNat]? = some (gate y (mn y)) := g_behind (by rw [in_long]; exact h.h) (by rw [in_ahead y h.h]; exact h2.h) (by rw [in_between y h.h]; exact h3.h) hc
end
theorem rows_l5 {y : Int} (h : IsB (leapB y)) (h5 : yl y % 10 = 5) : rowsOf y = [(7, 30), (8, 30), (9, 30), (10, 29), (11, 30), (12, 30), (13, 29), (1, 30), (2, 29), (3, 30), (4, 29), (5, 30), (6, 29)] := by
  rw [rowsOf_l h.h]; simp [h5]
theorem rows_l3 {y : Int} (h : IsB (leapB y)) (h5 : yl y % 10 ≠ 5) (h3 : yl y % 10 = 3) : rowsOf y = [(7, 30), (8, 29), (9, 29), (10, 29), (11, 30), (12, 30), (13, 29), (1, 30), (2, 29), (3, 30), (4, 29), (5, 30), (6, 29)] := by
  rw [rowsOf_l h.h]; simp [h3]
theorem rows_lo {y : Int} (h : IsB (leapB y)) (h5 : yl y % 10 ≠ 5) (h3 : yl y % 10 ≠ 3) : rowsOf y = [(7, 30), (8, 29), (9, 30), (10, 29), (11, 30), (12, 30), (13, 29), (1, 30), (2, 29), (3, 30), (4, 29), (5, 30), (6, 29)] := by
  rw [rowsOf_l h.h]; simp [h5, h3]
theorem rows_c5 {y : Int} (h : NotB (leapB y)) (h5 : yl y % 10 = 5) : rowsOf y = [(7, 30), (8, 30), (9, 30), (10, 29), (11, 30), (12, 29), (1, 30), (2, 29), (3, 30), (4, 29), (5, 30), (6, 29)] := by
  rw [rowsOf_c h.h]; simp [h5]
theorem rows_c3 {y : Int} (h : NotB (leapB y)) (h5 : yl y % 10 ≠ 5) (h3 : yl y % 10 = 3) : rowsOf y = [(7, 30), (8, 29), (9, 29), (10, 29), (11, 30), (12, 29), (1, 30), (2, 29), (3, 30), (4, 29), (5, 30), (6, 29)] := by
  rw [rowsOf_c h.h]; simp [h3]
theorem rows_co {y : Int} (h : NotB (leapB y)) (h5 : yl y % 10 ≠ 5) (h3 : yl y % 10 ≠ 3) : rowsOf y = [(7, 30), (8, 29), (9, 30), (10, 29), (11, 30), (12, 29), (1, 30), (2, 29), (3, 30), (4, 29), (5, 30), (6, 29)] := by
  rw [rowsOf_c h.h]; simp [h5, h3]
end Mine
end
section
set_option maxRecDepth 100000
namespace Mine
open PySem PySem.W PySem.Calls PyProof.Rows PyProof.V PySem.Spec PyProof.Rows.LCg
theorem data_A1 {c ml : Int} (h1 : 0 ≤ c) (h2 : c < 7) (h3 : ml = 29 ∨ ml = 30) (hw : 8 - c + 7 + 7 + 7 + 6 ≤ ml ∧ 8 - c + 7 + 7 + 7 + 7 ≤ ml) :
    calD c.toNat ml.toNat = .list [.list (List.replicate c.toNat PyData.none ++ (rangeKs 1 (8 - c - 1).toNat).map PyData.int), .list ((rangeKs (8 - c) (8 - c + 7 - (8 - c)).toNat).map PyData.int), .list ((rangeKs (8 - c + 7) (8 - c + 7 + 7 - (8 - c + 7)).toNat).map PyData.int), .list ((rangeKs (8 - c + 7 + 7) (8 - c + 7 + 7 + 7 - (8 - c + 7 + 7)).toNat).map PyData.int), .list ((rangeKs (8 - c + 7 + 7 + 7) (8 - c + 7 + 7 + 7 + 7 - (8 - c + 7 + 7 + 7)).toNat).map PyData.int), .list ((rangeKs (8 - c + 7 + 7 + 7 + 7) (ml + 1 - (8 - c + 7 + 7 + 7 + 7)).toNat).map PyData.int ++ List.replicate (8 - c + 7 + 7 + 7 + 7 + 6 - ml).toNat PyData.none)] := by
  rcases (show c = 0 ∨ c = 1 ∨ c = 2 ∨ c = 3 ∨ c = 4 ∨ c = 5 ∨ c = 6 by omega) with rfl | rfl | rfl | rfl | rfl | rfl | rfl <;> rcases h3 with rfl | rfl <;> first | (exfalso; omega) | rfl
theorem leaf_A1 {all : List (Addr × Obj)} {c ml : Int} {l r0 r1 r2 r3 r4 r5 : Addr} {n n0 n1 n2 n3 n4 n5 : Nat} {v0 v1 v2 v3 v4 v5 : List Value} {arr : Array Value} (h1 : 0 ≤ c) (h2 : c < 7) (h3 : ml = 29 ∨ ml = 30) (hw : 8 - c + 7 + 7 + 7 + 6 ≤ ml ∧ 8 - c + 7 + 7 + 7 + 7 ≤ ml)
    (I0 : IntsAre v0 (rangeKs 1 (8 - c - 1).toNat)) (I1 : IntsAre v1 (rangeKs (8 - c) (8 - c + 7 - (8 - c)).toNat)) (I2 : IntsAre v2 (rangeKs (8 - c + 7) (8 - c + 7 + 7 - (8 - c + 7)).toNat)) (I3 : IntsAre v3 (rangeKs (8 - c + 7 + 7) (8 - c + 7 + 7 + 7 - (8 - c + 7 + 7)).toNat)) (I4 : IntsAre v4 (rangeKs (8 - c + 7 + 7 + 7) (8 - c + 7 + 7 + 7 + 7 - (8 - c + 7 + 7 + 7)).toNat)) (I5 : IntsAre v5 (rangeKs (8 - c + 7 + 7 + 7 + 7) (ml + 1 - (8 - c + 7 + 7 + 7 + 7)).toNat))
    (m : (l, listOf arr n) ∈ all) (e : arr = [Value.ref r0, Value.ref r1, Value.ref r2, Value.ref r3, Value.ref r4, Value.ref r5].toArray) (m0 : (r0, listOf (List.replicate c.toNat Value.none ++ v0).toArray n0) ∈ all) (m1 : (r1, listOf v1.toArray n1) ∈ all) (m2 : (r2, listOf v2.toArray n2) ∈ all) (m3 : (r3, listOf v3.toArray n3) ∈ all) (m4 : (r4, listOf v4.toArray n4) ∈ all) (m5 : (r5, listOf (v5 ++ List.replicate (8 - c + 7 + 7 + 7 + 7 + 6 - ml).toNat Value.none).toArray n5) ∈ all) :
    Bears all (.ref l) (calD c.toNat ml.toNat) := by
  subst e
  rw [data_A1 h1 h2 h3 hw]
  exact bears_list m (.cons (bears_flat m0 (car_app (car_rep _) (ke_carried I0))) (.cons (bears_flat m1 (ke_carried I1)) (.cons (bears_flat m2 (ke_carried I2)) (.cons (bears_flat m3 (ke_carried I3)) (.cons (bears_flat m4 (ke_carried I4)) (.cons (bears_flat m5 (car_app (ke_carried I5) (car_rep _))) .nil))))))
theorem data_A2 {c ml : Int} (h1 : 0 ≤ c) (h2 : c < 7) (h3 : ml = 29 ∨ ml = 30) (hw : 8 - c + 7 + 7 + 7 + 6 ≤ ml ∧ ¬ 8 - c + 7 + 7 + 7 + 7 ≤ ml) :
    calD c.toNat ml.toNat = .list [.list (List.replicate c.toNat PyData.none ++ (rangeKs 1 (8 - c - 1).toNat).map PyData.int), .list ((rangeKs (8 - c) (8 - c + 7 - (8 - c)).toNat).map PyData.int), .list ((rangeKs (8 - c + 7) (8 - c + 7 + 7 - (8 - c + 7)).toNat).map PyData.int), .list ((rangeKs (8 - c + 7 + 7) (8 - c + 7 + 7 + 7 - (8 - c + 7 + 7)).toNat).map PyData.int), .list ((rangeKs (8 - c + 7 + 7 + 7) (8 - c + 7 + 7 + 7 + 7 - (8 - c + 7 + 7 + 7)).toNat).map PyData.int)] := by
  rcases (show c = 0 ∨ c = 1 ∨ c = 2 ∨ c = 3 ∨ c = 4 ∨ c = 5 ∨ c = 6 by omega) with rfl | rfl | rfl | rfl | rfl | rfl | rfl <;> rcases h3 with rfl | rfl <;> first | (exfalso; omega) | rfl
theorem leaf_A2 {all : List (Addr × Obj)} {c ml : Int} {l r0 r1 r2 r3 r4 : Addr} {n n0 n1 n2 n3 n4 : Nat} {v0 v1 v2 v3 v4 : List Value} {arr : Array Value} (h1 : 0 ≤ c) (h2 : c < 7) (h3 : ml = 29 ∨ ml = 30) (hw : 8 - c + 7 + 7 + 7 + 6 ≤ ml ∧ ¬ 8 - c + 7 + 7 + 7 + 7 ≤ ml)
    (I0 : IntsAre v0 (rangeKs 1 (8 - c - 1).toNat)) (I1 : IntsAre v1 (rangeKs (8 - c) (8 - c + 7 - (8 - c)).toNat)) (I2 : IntsAre v2 (rangeKs (8 - c + 7) (8 - c + 7 + 7 - (8 - c + 7)).toNat)) (I3 : IntsAre v3 (rangeKs (8 - c + 7 + 7) (8 - c + 7 + 7 + 7 - (8 - c + 7 + 7)).toNat)) (I4 : IntsAre v4 (rangeKs (8 - c + 7 + 7 + 7) (8 - c + 7 + 7 + 7 + 7 - (8 - c + 7 + 7 + 7)).toNat))
    (m : (l, listOf arr n) ∈ all) (e : arr = [Value.ref r0, Value.ref r1, Value.ref r2, Value.ref r3, Value.ref r4].toArray) (m0 : (r0, listOf (List.replicate c.toNat Value.none ++ v0).toArray n0) ∈ all) (m1 : (r1, listOf v1.toArray n1) ∈ all) (m2 : (r2, listOf v2.toArray n2) ∈ all) (m3 : (r3, listOf v3.toArray n3) ∈ all) (m4 : (r4, listOf v4.toArray n4) ∈ all) :
    Bears all (.ref l) (calD c.toNat ml.toNat) := by
  subst e
  rw [data_A2 h1 h2 h3 hw]
  exact bears_list m (.cons (bears_flat m0 (car_app (car_rep _) (ke_carried I0))) (.cons (bears_flat m1 (ke_carried I1)) (.cons (bears_flat m2 (ke_carried I2)) (.cons (bears_flat m3 (ke_carried I3)) (.cons (bears_flat m4 (ke_carried I4)) .nil)))))
theorem data_B {c ml : Int} (h1 : 0 ≤ c) (h2 : c < 7) (h3 : ml = 29 ∨ ml = 30) (hw : ¬ 8 - c + 7 + 7 + 7 + 6 ≤ ml) :
    calD c.toNat ml.toNat = .list [.list (List.replicate c.toNat PyData.none ++ (rangeKs 1 (8 - c - 1).toNat).map PyData.int), .list ((rangeKs (8 - c) (8 - c + 7 - (8 - c)).toNat).map PyData.int), .list ((rangeKs (8 - c + 7) (8 - c + 7 + 7 - (8 - c + 7)).toNat).map PyData.int), .list ((rangeKs (8 - c + 7 + 7) (8 - c + 7 + 7 + 7 - (8 - c + 7 + 7)).toNat).map PyData.int), .list ((rangeKs (8 - c + 7 + 7 + 7) (ml + 1 - (8 - c + 7 + 7 + 7)).toNat).map PyData.int ++ List.replicate (8 - c + 7 + 7 + 7 + 6 - ml).toNat PyData.none)] := by
  rcases (show c = 0 ∨ c = 1 ∨ c = 2 ∨ c = 3 ∨ c = 4 ∨ c = 5 ∨ c = 6 by omega) with rfl | rfl | rfl | rfl | rfl | rfl | rfl <;> rcases h3 with rfl | rfl <;> first | (exfalso; omega) | rfl
theorem leaf_B {all : List (Addr × Obj)} {c ml : Int} {l r0 r1 r2 r3 r4 : Addr} {n n0 n1 n2 n3 n4 : Nat} {v0 v1 v2 v3 v4 : List Value} {arr : Array Value} (h1 : 0 ≤ c) (h2 : c < 7) (h3 : ml = 29 ∨ ml = 30) (hw : ¬ 8 - c + 7 + 7 + 7 + 6 ≤ ml)
    (I0 : IntsAre v0 (rangeKs 1 (8 - c - 1).toNat)) (I1 : IntsAre v1 (rangeKs (8 - c) (8 - c + 7 - (8 - c)).toNat)) (I2 : IntsAre v2 (rangeKs (8 - c + 7) (8 - c + 7 + 7 - (8 - c + 7)).toNat)) (I3 : IntsAre v3 (rangeKs (8 - c + 7 + 7) (8 - c + 7 + 7 + 7 - (8 - c + 7 + 7)).toNat)) (I4 : IntsAre v4 (rangeKs (8 - c + 7 + 7 + 7) (ml + 1 - (8 - c + 7 + 7 + 7)).toNat))
    (m : (l, listOf arr n) ∈ all) (e : arr = [Value.ref r0, Value.ref r1, Value.ref r2, Value.ref r3, Value.ref r4].toArray) (m0 : (r0, listOf (List.replicate c.toNat Value.none ++ v0).toArray n0) ∈ all) (m1 : (r1, listOf v1.toArray n1) ∈ all) (m2 : (r2, listOf v2.toArray n2) ∈ all) (m3 : (r3, listOf v3.toArray n3) ∈ all) (m4 : (r4, listOf (v4 ++ List.replicate (8 - c + 7 + 7 + 7 + 6 - ml).toNat Value.none).toArray n4) ∈ all) :
    Bears all (.ref l) (calD c.toNat ml.toNat) := by
  subst e
  rw [data_B h1 h2 h3 hw]
  exact bears_list m (.cons (bears_flat m0 (car_app (car_rep _) (ke_carried I0))) (.cons (bears_flat m1 (ke_carried I1)) (.cons (bears_flat m2 (ke_carried I2)) (.cons (bears_flat m3 (ke_carried I3)) (.cons (bears_flat m4 (car_app (ke_carried I4) (car_rep _))) .nil)))))
end Mine
end
section
set_option maxRecDepth 100000
namespace Mine
open PySem PySem.W PySem.Calls PyProof.Rows PyProof.V PySem.Spec PyProof.Rows.LCg
/-- the days run through the months' rows -/
def Chain (y : Int) : Int → List (Int × Int) → Prop
  | D, [] => D = dn (y + 1) 7 1
  | D, (k, k') :: r => 1 ≤ k ∧ k ≤ 13 ∧ k' = mlen y k ∧ D = dn y k 1 ∧ Chain y (D + k') r
theorem chain_rows (y : Int) : Chain y (dn y 7 1) (rowsOf y) := by
  obtain ⟨o7, o8, o9, o10, o11, o12, o13⟩ := off_hi y
  obtain ⟨o1, o2, o3, o4, o5, o6⟩ := off_lo y
  have f := ml_fix y
  have hs := year_sum y
  have hy : dn (y + 1) 7 1 = ny y + yl y + 1 := by rw [dn7, ny_next]
  have d : ∀ m, dn y m 1 = ny y + off y m + 1 := fun m => rfl
  unfold rowsOf monthsOf
  rcases ym_cases y with ⟨h, h'⟩ | ⟨h, h'⟩
  · have hu : upto y = 118 + mlen y 8 + mlen y 9 + mlen y 12 := by unfold upto; rw [if_pos h]
    rw [if_pos h]
    simp only [List.map_cons, List.map_nil, Chain, d]
    repeat' apply And.intro
    all_goals first | trivial | omega
  · have hu : upto y = 89 + mlen y 8 + mlen y 9 + mlen y 12 := by unfold upto; rw [if_neg (by simp [h])]
    rw [if_neg (by simp [h])]
    simp only [List.map_cons, List.map_nil, Chain, d]
    repeat' apply And.intro
    all_goals first | trivial | omega
theorem rows_len (y : Int) : ((rowsOf y).length : Int) = ym y := by
  unfold rowsOf monthsOf
  rcases ym_cases y with ⟨h, h'⟩ | ⟨h, h'⟩
  · rw [if_pos h, h']; rfl
  · rw [if_neg (by simp [h]), h']; rfl
theorem pairs_len {all : List (Addr × Obj)} {B : Addr → Prop} {vs : List Value} {ks : List (Int × Int)} (P : PairsIn all B vs ks) : vs.length = ks.length := by
  induction P with
  | nil => rfl
  | cons _ _ _ ih => simp [ih]
theorem pairs_mono {all news : List (Addr × Obj)} {B : Addr → Prop} {vs : List Value} {ks : List (Int × Int)} (S : ∀ p ∈ all, p ∈ news) (P : PairsIn all B vs ks) : PairsIn news B vs ks := by
  induction P with
  | nil => exact .nil
  | cons a b _ ih => exact .cons (S _ a) b ih
section
variable {prog : Program} {w : World} {A : Around} {E : Value → Shared → Prop} {s : Shared} {env : Env} {h₀ : Heap} {target : Expr} {body : List Stmt} {Q : Flow → Shared → Prop}
theorem months_rest {y : Int} {col len mon : Str} {m₀ : Str → Option Value} {news : List (Addr × Obj)} {B : Addr → Prop} {I ax : Addr} {lo : Obj} (hI : ∀ p ∈ news, p.1 < I) (hm : (ax, lo) ∈ news)
    (turn : ∀ r k t k' u c tc (uu : Str → Option Value) led h tk, 1 ≤ k → k ≤ 13 → (k' = 29 ∨ k' = 30) → k' = mlen y k → c = (dn y k 1 + 2) % 7 → 0 ≤ c → c < 7 → Fr h₀ env.locals h (fun z => if z = col then some (.int c tc) else if z = len then uu z else if z = mon then uu z else m₀ z) → News h₀ env.locals h ((r, tupJ [Value.int k t, Value.int k' u]) :: led) →
      wpAny (model prog w) A (assign target env (.ref r)) (fun _ s₂ => wpAny (model prog w) A (execs body env) (InvPost h₀ env.locals (fun m' => (∃ t', m' col = some (.int ((c + k') % 7) t')) ∧ ∀ z, z ≠ col → z ≠ len → z ≠ mon → m' z = m₀ z) led { s with heap := h, toks := tk } Q) E s₂) E { s with heap := h, toks := tk })
    (done : ∀ c tc (uu : Str → Option Value) h tk, c = (dn (y + 1) 7 1 + 2) % 7 → 0 ≤ c → c < 7 → Fr h₀ env.locals h (fun z => if z = col then some (.int c tc) else if z = len then uu z else if z = mon then uu z else m₀ z) → News h₀ env.locals h news → Q .next { s with heap := h, toks := tk }) :
    ∀ {vs : List Value} {ks : List (Int × Int)}, PairsIn news B vs ks → ∀ (D : Int) (m₁ : Str → Option Value), Chain y D ks → (∃ t, m₁ col = some (.int ((D + 2) % 7) t)) → (∀ z, z ≠ col → z ≠ len → z ≠ mon → m₁ z = m₀ z) →
      ItemsRest prog w A E h₀ env target body Q s [(I, "list_iterator")] [(ax, lo)] (vs.map .val) m₁ news := by
  have fr : ∀ {m₁ : Str → Option Value} {c : Int} {t : Tok}, m₁ col = some (.int c t) → (∀ z, z ≠ col → z ≠ len → z ≠ mon → m₁ z = m₀ z) → m₁ = fun z => if z = col then some (.int c t) else if z = len then m₁ z else if z = mon then m₁ z else m₀ z := by
    intro m₁ c t h1 h2
    funext z
    by_cases a : z = col
    · subst a; simp [h1]
    · by_cases b : z = len
      · simp only [if_neg a, if_pos b]
      · by_cases d : z = mon
        · simp only [if_neg a, if_neg b, if_pos d]
        · simp only [if_neg a, if_neg b, if_neg d]; exact h2 z a b d
  intro vs ks P
  induction P with
  | nil =>
    intro D m₁ hC ⟨t, hc⟩ hz
    have hC' : D = dn (y + 1) 7 1 := hC
    refine ItemsRest.zero fun h tk F N => ?_
    rw [fr hc hz] at F
    exact done _ t m₁ h tk (by rw [hC']) (by omega) (by omega) F N
  | @cons ra ta ub ka kb vs ks hp _ _ ih =>
    intro D m₁ hC ⟨tc, hc⟩ hz
    obtain ⟨h1, h2, h3, h4, hC'⟩ := hC
    refine ItemsRest.val fun h tk F => ?_
    refine AllObj.cons fun o ho => AllObj.nil fun N => ?_
    rw [fr hc hz] at F
    have N' : News h₀ env.locals h ((_, tupJ [Value.int _ _, Value.int _ _]) :: ([(I, o)] ++ news)) := fun p hp' => by
      rcases List.mem_cons.mp hp' with rfl | hp'
      · exact N _ (List.mem_append.mpr (.inr hp))
      · exact N p hp'
    refine wpAny_mono (turn _ _ _ _ _ _ tc m₁ _ h tk h1 h2 (by rw [h3]; exact mlen_bnd _ _) h3 (by rw [h4]) (by omega) (by omega) F N') (fun _ s₂ q => ?_) fun _ _ e => e
    refine wpAny_mono q (fun f s₃ q => ?_) fun _ _ e => e
    have fin : ∀ {s₃}, InvEnd h₀ env.locals (fun m' => (∃ t', m' col = some (.int (((D + 2) % 7 + kb) % 7) t')) ∧ ∀ z, z ≠ col → z ≠ len → z ≠ mon → m' z = m₀ z) ([(I, o)] ++ news) { s with heap := h, toks := tk } s₃ → UnrEndW h₀ env.locals { s with heap := h, toks := tk } [(I, o)] (fun m' n' => SubL [(ax, lo)] n' ∧ ItemsRest prog w A E h₀ env target body Q s [(I, "list_iterator")] [(ax, lo)] (List.map Itm.val vs) m' n') s₃ := by
      rintro s₃ ⟨h', tk', m', news', e, F', Nf, hn, ⟨t', hc'⟩, hz'⟩
      refine ⟨h', tk', m', news, e, F', fun p hp => Nf p (hn p hp), fun p hp q hq => ?_, ⟨hm, trivial⟩, ih _ m' hC' ⟨t', ?_⟩ hz'⟩
      · rw [List.mem_singleton.mp hq]; exact Nat.ne_of_lt (hI p hp)
      · rw [hc']; congr 2; omega
    cases f with
    | ret v => exact q
    | brk => exact q
    | next => exact fin q
    | cont => exact fin q
theorem iter_months {y : Int} {c : Int} {tc : Tok} {ax : Addr} {col len mon : Str} {m₀ : Str → Option Value} {news all : List (Addr × Obj)} {B : Addr → Prop} (_ : YY y)
    (hh : A.handled = none) (F : Fr h₀ env.locals s.heap m₀) (N : News h₀ env.locals s.heap news) (K : KindsIn all B ax (rowsOf y)) (S : ∀ p ∈ all, p ∈ news) (hcol : m₀ col = some (.int c tc)) (hc : c = (dn y 7 1 + 2) % 7)
    (turn : ∀ r k t k' u c tc (uu : Str → Option Value) led h tk, 1 ≤ k → k ≤ 13 → (k' = 29 ∨ k' = 30) → k' = mlen y k → c = (dn y k 1 + 2) % 7 → 0 ≤ c → c < 7 → Fr h₀ env.locals h (fun z => if z = col then some (.int c tc) else if z = len then uu z else if z = mon then uu z else m₀ z) → News h₀ env.locals h ((r, tupJ [Value.int k t, Value.int k' u]) :: led) →
      wpAny (model prog w) A (assign target env (.ref r)) (fun _ s₂ => wpAny (model prog w) A (execs body env) (InvPost h₀ env.locals (fun m' => (∃ t', m' col = some (.int ((c + k') % 7) t')) ∧ ∀ z, z ≠ col → z ≠ len → z ≠ mon → m' z = m₀ z) led { s with heap := h, toks := tk } Q) E s₂) E { s with heap := h, toks := tk })
    (done : ∀ c tc (uu : Str → Option Value) h tk, c = (dn (y + 1) 7 1 + 2) % 7 → 0 ≤ c → c < 7 → Fr h₀ env.locals h (fun z => if z = col then some (.int c tc) else if z = len then uu z else if z = mon then uu z else m₀ z) → News h₀ env.locals h news → Q .next { s with heap := h, toks := tk }) :
    wpAny (model prog w) A (pyIter (.ref ax)) (fun it s₂ => TurnsAt prog w A h₀ env target body Q E it s₂) E s := by
  obtain ⟨vs, n, hm, P⟩ := K
  have P' : PairsIn news B vs (rowsOf y) := pairs_mono S P
  exact iter_listTurns hh F N (S _ hm) rfl rfl fun I hI => months_rest hI (S _ hm) turn done P' (dn y 7 1) m₀ (chain_rows y) ⟨tc, by rw [hcol, hc]⟩ fun _ _ _ _ => rfl
end
end Mine
end
section
set_option maxRecDepth 100000
namespace Mine
open PySem PySem.W PySem.Calls PyProof.Rows PyProof.V PySem.Spec PyProof.Rows.LCg
section
variable {prog : Program} {w : World} {A : Around} {E : Value → Shared → Prop} {s : Shared} {h₀ : Heap} {L l a b : Addr} {news all all1 all2 : List (Addr × Obj)} {B : Addr → Prop} {ks : List (Int × Int)} {y : Int} {Q : Value → Shared → Prop}
theorem r_ne_leaf {lp1 lp2 ml1 ml2 : Nat} (N : News h₀ L s.heap news) (B1 : Bears all1 (.ref a) (calD lp1 ml1)) (S1 : ∀ p ∈ all1, p ∈ news) (B2 : Bears all2 (.ref b) (calD lp2 ml2)) (S2 : ∀ p ∈ all2, p ∈ news) (e1 : lp1 = lp2) (e2 : ml1 = ml2) (h1 : lp2 < 7) (h2 : ml2 = 29 ∨ ml2 = 30)
    (hu : A.units + 64 < cLine) (h : Q (.bool false) s) : wpAny (model prog w) A (compareOp .NotEq (.ref a) (.ref b)) Q E s := by
  subst e1; subst e2
  obtain ⟨as, r1⟩ := B1.reads N S1
  obtain ⟨bs, r2⟩ := B2.reads N S2
  have ok := calD_ok h1 h2
  refine ne_dataH r1 r2 ok.1 ok.1 hu ?_
  rw [ok.2]; exact h
theorem r_len (N : News h₀ L s.heap news) (K : KindsIn all B l (rowsOf y)) (S : ∀ p ∈ all, p ∈ news)
    (h : Q (.int (ym y) (s.toks + 1)) { s with toks := s.toks + 1 + 1 }) : wpAny (model prog w) A (call (.builtin "len") [.ref l]) Q E s := by
  obtain ⟨vs, n, hm, P⟩ := K
  have e1 := pairs_len P
  have e2 := rows_len y
  have e3 := ym_cases y
  have hl : s.heap.IsList l vs.toArray := ⟨_, (N _ (S _ hm)).1, rfl, _, rfl⟩
  refine Calls.call_len_list hl (by rw [List.size_toArray]; omega) ?_
  rw [show ((vs.toArray.size : Nat) : Int) = ym y by rw [List.size_toArray]; omega]
  exact h
end
theorem fj7L {y p N : Int} (h1 : -951 ≤ y) (h2 : y < 7000000000) (h3 : 0 ≤ p) (h4 : p < 30) (hN : N = ny y + 1 + p) : FJ y 7 (p + 1) N :=
  ⟨h1, h2, by omega, by have := ym_cases y; omega, by omega, by have := (ml_fix y).2.2.2.2.2.2.1; omega, by rw [dn7]; omega⟩
theorem fj8L {y p N : Int} (h1 : -951 ≤ y) (h2 : y < 7000000000) (h3 : 30 ≤ p) (h4 : p < 58) (hN : N = ny y + 1 + p) : FJ y 8 (p - 29) N :=
  ⟨h1, h2, by omega, by have := ym_cases y; omega, by omega, by have := mlen_bnd y 8; omega, by unfold dn; rw [(off_hi y).2.1]; omega⟩
structure AlmF (y : Int) : Prop where
  o : 0 ≤ op y ∧ op y < 7
  n : ny y = 347996 + 7 * wk y + op y
  p : 274 ≤ ny y ∧ ny y < 2670000400000
  l : (370 < yl y ∧ ym y = 13) ∨ (yl y ≤ 370 ∧ ym y = 12)
  d : dn y 7 1 = ny y + 1
  b : (leapB y != (ym y == 13)) = false
  s : yl y = 353 ∨ yl y = 354 ∨ yl y = 355 ∨ yl y = 383 ∨ yl y = 384 ∨ yl y = 385
theorem almF {y : Int} (h1 : -951 ≤ y) (h2 : y < 7100000000) : AlmF y :=
  ⟨op_bnd y, ny_op y, by have := ny_pos h1; have := ny_bnd (show -10000 < y by omega) (show y < 7300000000 by omega); omega, (Int.lt_or_le 370 (yl y)).elim (fun h => .inl ⟨h, ((leap_yl y).1 h).2⟩) (fun h => .inr ⟨h, ((leap_yl y).2 h).2⟩), dn7 y 1, by rcases ym_cases y with ⟨a, b⟩ | ⟨a, b⟩ <;> rw [a, b] <;> rfl, f_yd h1⟩
theorem fl2 {y p : Int} (hn : ny y = 347996 + 7 * wk y + op y) (ok : Ok (1024 * (347998 + 7 * wk y + op y + p) - 512)) : FlAt (G (1024 * (347998 + 7 * wk y + op y + p) - 512)) (ny y + 1 + p) := FlAt.G ok (by omega)
theorem two {vs : List Value} {ns : List Int} (h : IntsAre vs (List.take 2 (List.take 2 ns ++ [0, 0]))) : ∃ a ta b tb, vs = [Value.int a ta, Value.int b tb] := by
  have hl : (List.take 2 (List.take 2 ns ++ [0, 0])).length = 2 := by simp
  generalize List.take 2 (List.take 2 ns ++ [0, 0]) = l at *
  match l, hl, h with
  | [a, b], _, .cons _ ta (.cons _ tb .nil) => exact ⟨a, ta, b, tb, rfl⟩
end Mine
end
section
set_option maxRecDepth 100000
set_option maxHeartbeats 4000000
namespace Mine
/-! law 03: the four gates, in plain ints -/
abbrev g3L : List (Int × Int × Int) := [(22091, 1, 383), (45360, 1, 385), (71280, 2, 384), (90335, 4, 383), (123120, 4, 385), (151691, 6, 383), (174960, 6, 385), (181440, 1, 383)]
abbrev g3C (a2 a6 : Int) : List (Int × Int × Int) := [(9924, 1, 353), (a2, 1, 355), (61764, 2, 354), (113604, 4, 354), (123120, 4, 355), (a6, 6, 353), (174960, 6, 355), (181440, 1, 353)]
def gates3 (y : Int) : List (Int × Int × Int) := if leapB y = true then g3L else g3C (if leapB (y - 1) = true then 42709 else 45360) (if leapB (y + 1) = true then 139524 else 130008)
/-- the place in the week of the year's moon, counted from another evening -/
def p3 (y : Int) : Int := (31524 + 765433 * mo y) % 181440
def e3 (y : Int) : Int := (31524 + 765433 * mo y) / 25920
abbrev below (P : Int) : Int × Int × Int → Bool := fun k => decide (P < k.1)
theorem p3_mn (y : Int) : 0 ≤ p3 y ∧ p3 y < 181440 ∧ (p3 y = mn y - 6480 ∨ p3 y = mn y + 174960) ∧ 0 ≤ mn y ∧ mn y < 181440 ∧ 25920 * e3 y ≤ 181440 * wk y + mn y - 6480 ∧ 181440 * wk y + mn y - 6480 < 25920 * e3 y + 25920 := by
  have h := wk_mn y
  unfold p3 e3
  omega
theorem k3_L {P m w e : Int} (h0 : 0 ≤ P) (h1 : P < 181440) (h2 : P = m - 6480 ∨ P = m + 174960) (h3 : 0 ≤ m) (h4 : m < 181440) (h5 : 25920 * e ≤ 181440 * w + m - 6480) (h6 : 181440 * w + m - 6480 < 25920 * e + 25920) :
    (∃ l, ((g3L).filter (below P)).head? = some (l, (gL m).1 + 1, (gL m).2)) ∧ e ≤ 7 * w + (gL m).1 + 1 ∧ 7 * w + (gL m).1 + 1 < e + 7 ∧ (7 * w + (gL m).1 + 1) % 7 = (gL m).1 + 1 := by
  have g := gL_facts m
  rcases (show (P < 22091) ∨ (22091 ≤ P ∧ P < 45360) ∨ (45360 ≤ P ∧ P < 71280) ∨ (71280 ≤ P ∧ P < 90335) ∨ (90335 ≤ P ∧ P < 123120) ∨ (123120 ≤ P ∧ P < 151691) ∨ (151691 ≤ P ∧ P < 174960) ∨ (174960 ≤ P ∧ P < 181440) by omega) with h | h | h | h | h | h | h | h
  · have e1 : (gL m).1 = 0 ∧ (gL m).2 = 383 := by omega
    refine ⟨⟨22091, ?_⟩, by omega, by omega, by omega⟩
    rw [e1.1, e1.2]
    simp only [List.filter_cons]
    rw [if_pos (show decide (P < 22091) = true by simp; omega)]
    rfl
  · have e1 : (gL m).1 = 0 ∧ (gL m).2 = 385 := by omega
    refine ⟨⟨45360, ?_⟩, by omega, by omega, by omega⟩
    rw [e1.1, e1.2]
    simp only [List.filter_cons]
    rw [if_neg (show ¬ decide (P < 22091) = true by simp; omega), if_pos (show decide (P < 45360) = true by simp; omega)]
    rfl
  · have e1 : (gL m).1 = 1 ∧ (gL m).2 = 384 := by omega
    refine ⟨⟨71280, ?_⟩, by omega, by omega, by omega⟩
    rw [e1.1, e1.2]
    simp only [List.filter_cons]
    rw [if_neg (show ¬ decide (P < 22091) = true by simp; omega), if_neg (show ¬ decide (P < 45360) = true by simp; omega), if_pos (show decide (P < 71280) = true by simp; omega)]
    rfl
  · have e1 : (gL m).1 = 3 ∧ (gL m).2 = 383 := by omega
    refine ⟨⟨90335, ?_⟩, by omega, by omega, by omega⟩
    rw [e1.1, e1.2]
    simp only [List.filter_cons]
    rw [if_neg (show ¬ decide (P < 22091) = true by simp; omega), if_neg (show ¬ decide (P < 45360) = true by simp; omega), if_neg (show ¬ decide (P < 71280) = true by simp; omega), if_pos (show decide (P < 90335) = true by simp; omega)]
    rfl
  · have e1 : (gL m).1 = 3 ∧ (gL m).2 = 385 := by omega
    refine ⟨⟨123120, ?_⟩, by omega, by omega, by omega⟩
    rw [e1.1, e1.2]
    simp only [List.filter_cons]
    rw [if_neg (show ¬ decide (P < 22091) = true by simp; omega), if_neg (show ¬ decide (P < 45360) = true by simp; omega), if_neg (show ¬ decide (P < 71280) = true by simp; omega), if_neg (show ¬ decide (P < 90335) = true by simp; omega), if_pos (show decide (P < 123120) = true by simp; omega)]
    rfl
  · have e1 : (gL m).1 = 5 ∧ (gL m).2 = 383 := by omega
    refine ⟨⟨151691, ?_⟩, by omega, by omega, by omega⟩
    rw [e1.1, e1.2]
    simp only [List.filter_cons]
    rw [if_neg (show ¬ decide (P < 22091) = true by simp; omega), if_neg (show ¬ decide (P < 45360) = true by simp; omega), if_neg (show ¬ decide (P < 71280) = true by simp; omega), if_neg (show ¬ decide (P < 90335) = true by simp; omega), if_neg (show ¬ decide (P < 123120) = true by simp; omega), if_pos (show decide (P < 151691) = true by simp; omega)]
    rfl
  · have e1 : (gL m).1 = 5 ∧ (gL m).2 = 385 := by omega
    refine ⟨⟨174960, ?_⟩, by omega, by omega, by omega⟩
    rw [e1.1, e1.2]
    simp only [List.filter_cons]
    rw [if_neg (show ¬ decide (P < 22091) = true by simp; omega), if_neg (show ¬ decide (P < 45360) = true by simp; omega), if_neg (show ¬ decide (P < 71280) = true by simp; omega), if_neg (show ¬ decide (P < 90335) = true by simp; omega), if_neg (show ¬ decide (P < 123120) = true by simp; omega), if_neg (show ¬ decide (P < 151691) = true by simp; omega), if_pos (show decide (P < 174960) = true by simp; omega)]
    rfl
  · have e1 : (gL m).1 = 0 ∧ (gL m).2 = 383 := by omega
    refine ⟨⟨181440, ?_⟩, by omega, by omega, by omega⟩
    rw [e1.1, e1.2]
    simp only [List.filter_cons]
    rw [if_neg (show ¬ decide (P < 22091) = true by simp; omega), if_neg (show ¬ decide (P < 45360) = true by simp; omega), if_neg (show ¬ decide (P < 71280) = true by simp; omega), if_neg (show ¬ decide (P < 90335) = true by simp; omega), if_neg (show ¬ decide (P < 123120) = true by simp; omega), if_neg (show ¬ decide (P < 151691) = true by simp; omega), if_neg (show ¬ decide (P < 174960) = true by simp; omega), if_pos (show decide (P < 181440) = true by simp; omega)]
    rfl
theorem k3_C {a2 a6 t2 t6 P m w e : Int} (b1 : a2 = t2 - 6480) (b2 : a6 = t6 - 6480) (c1 : 16404 < t2) (c2 : t2 ≤ 51840) (c3 : 129600 < t6) (c4 : t6 ≤ 146004) (h0 : 0 ≤ P) (h1 : P < 181440) (h2 : P = m - 6480 ∨ P = m + 174960) (h3 : 0 ≤ m) (h4 : m < 181440) (h5 : 25920 * e ≤ 181440 * w + m - 6480) (h6 : 181440 * w + m - 6480 < 25920 * e + 25920) :
    (∃ l, ((g3C a2 a6).filter (below P)).head? = some (l, (gC t2 t6 m).1 + 1, (gC t2 t6 m).2)) ∧ e ≤ 7 * w + (gC t2 t6 m).1 + 1 ∧ 7 * w + (gC t2 t6 m).1 + 1 < e + 7 ∧ (7 * w + (gC t2 t6 m).1 + 1) % 7 = (gC t2 t6 m).1 + 1 := by
  have g := gC_facts t2 t6 m
  rcases (show (P < 9924) ∨ (9924 ≤ P ∧ P < a2) ∨ (a2 ≤ P ∧ P < 61764) ∨ (61764 ≤ P ∧ P < 113604) ∨ (113604 ≤ P ∧ P < 123120) ∨ (123120 ≤ P ∧ P < a6) ∨ (a6 ≤ P ∧ P < 174960) ∨ (174960 ≤ P ∧ P < 181440) by omega) with h | h | h | h | h | h | h | h
  · have e1 : (gC t2 t6 m).1 = 0 ∧ (gC t2 t6 m).2 = 353 := by omega
    refine ⟨⟨9924, ?_⟩, by omega, by omega, by omega⟩
    rw [e1.1, e1.2]
    simp only [List.filter_cons]
    rw [if_pos (show decide (P < 9924) = true by simp; omega)]
    rfl
  · have e1 : (gC t2 t6 m).1 = 0 ∧ (gC t2 t6 m).2 = 355 := by omega
    refine ⟨⟨a2, ?_⟩, by omega, by omega, by omega⟩
    rw [e1.1, e1.2]
    simp only [List.filter_cons]
    rw [if_neg (show ¬ decide (P < 9924) = true by simp; omega), if_pos (show decide (P < a2) = true by simp; omega)]
    rfl
  · have e1 : (gC t2 t6 m).1 = 1 ∧ (gC t2 t6 m).2 = 354 := by omega
    refine ⟨⟨61764, ?_⟩, by omega, by omega, by omega⟩
    rw [e1.1, e1.2]
    simp only [List.filter_cons]
    rw [if_neg (show ¬ decide (P < 9924) = true by simp; omega), if_neg (show ¬ decide (P < a2) = true by simp; omega), if_pos (show decide (P < 61764) = true by simp; omega)]
    rfl
  · have e1 : (gC t2 t6 m).1 = 3 ∧ (gC t2 t6 m).2 = 354 := by omega
    refine ⟨⟨113604, ?_⟩, by omega, by omega, by omega⟩
    rw [e1.1, e1.2]
    simp only [List.filter_cons]
    rw [if_neg (show ¬ decide (P < 9924) = true by simp; omega), if_neg (show ¬ decide (P < a2) = true by simp; omega), if_neg (show ¬ decide (P < 61764) = true by simp; omega), if_pos (show decide (P < 113604) = true by simp; omega)]
    rfl
  · have e1 : (gC t2 t6 m).1 = 3 ∧ (gC t2 t6 m).2 = 355 := by omega
    refine ⟨⟨123120, ?_⟩, by omega, by omega, by omega⟩
    rw [e1.1, e1.2]
    simp only [List.filter_cons]
    rw [if_neg (show ¬ decide (P < 9924) = true by simp; omega), if_neg (show ¬ decide (P < a2) = true by simp; omega), if_neg (show ¬ decide (P < 61764) = true by simp; omega), if_neg (show ¬ decide (P < 113604) = true by simp; omega), if_pos (show decide (P < 123120) = true by simp; omega)]
    rfl
  · have e1 : (gC t2 t6 m).1 = 5 ∧ (gC t2 t6 m).2 = 353 := by omega
    refine ⟨⟨a6, ?_⟩, by omega, by omega, by omega⟩
    rw [e1.1, e1.2]
    simp only [List.filter_cons]
    rw [if_neg (show ¬ decide (P < 9924) = true by simp; omega), if_neg (show ¬ decide (P < a2) = true by simp; omega), if_neg (show ¬ decide (P < 61764) = true by simp; omega), if_neg (show ¬ decide (P < 113604) = true by simp; omega), if_neg (show ¬ decide (P < 123120) = true by simp; omega), if_pos (show decide (P < a6) = true by simp; omega)]
    rfl
  · have e1 : (gC t2 t6 m).1 = 5 ∧ (gC t2 t6 m).2 = 355 := by omega
    refine ⟨⟨174960, ?_⟩, by omega, by omega, by omega⟩
    rw [e1.1, e1.2]
    simp only [List.filter_cons]
    rw [if_neg (show ¬ decide (P < 9924) = true by simp; omega), if_neg (show ¬ decide (P < a2) = true by simp; omega), if_neg (show ¬ decide (P < 61764) = true by simp; omega), if_neg (show ¬ decide (P < 113604) = true by simp; omega), if_neg (show ¬ decide (P < 123120) = true by simp; omega), if_neg (show ¬ decide (P < a6) = true by simp; omega), if_pos (show decide (P < 174960) = true by simp; omega)]
    rfl
  · have e1 : (gC t2 t6 m).1 = 0 ∧ (gC t2 t6 m).2 = 353 := by omega
    refine ⟨⟨181440, ?_⟩, by omega, by omega, by omega⟩
    rw [e1.1, e1.2]
    simp only [List.filter_cons]
    rw [if_neg (show ¬ decide (P < 9924) = true by simp; omega), if_neg (show ¬ decide (P < a2) = true by simp; omega), if_neg (show ¬ decide (P < 61764) = true by simp; omega), if_neg (show ¬ decide (P < 113604) = true by simp; omega), if_neg (show ¬ decide (P < 123120) = true by simp; omega), if_neg (show ¬ decide (P < a6) = true by simp; omega), if_neg (show ¬ decide (P < 174960) = true by simp; omega), if_pos (show decide (P < 181440) = true by simp; omega)]
    rfl
theorem kind3 (y : Int) : (∃ l, ((gates3 y).filter (below (p3 y))).head? = some (l, op y + 1, yl y)) ∧ e3 y ≤ 7 * wk y + op y + 1 ∧ 7 * wk y + op y + 1 < e3 y + 7 ∧ (7 * wk y + op y + 1) % 7 = op y + 1 := by
  obtain ⟨h0, h1, h2, h3, h4, h5, h6⟩ := p3_mn y
  have hg := gate_op y
  have e1 : op y = (gate y (mn y)).1 := rfl
  have e2 : yl y = (gate y (mn y)).2 := by rw [hg]
  rw [e1, e2]
  have pat := leap_pat y
  unfold gates3 gate
  cases hl : leapB y with
  | true =>
    simp only [if_true]
    exact k3_L h0 h1 h2 h3 h4 h5 h6
  | false =>
    simp only [Bool.false_eq_true, if_false]
    cases ha : leapB (y - 1) <;> cases hb : leapB (y + 1) <;> simp only [Bool.false_eq_true, if_false, if_true] <;> first
      | exact k3_C rfl rfl (by decide) (by decide) (by decide) (by decide) h0 h1 h2 h3 h4 h5 h6
      | (exfalso; have := pat.2 hl ha; rw [hb] at this; cases this)
end Mine
end
section
set_option maxRecDepth 100000
namespace Mine
open PySem PySem.W PySem.Calls PyProof.Rows PyProof.V PySem.Spec PyProof.Rows.LCg
inductive TriplesIn (all : List (Addr × Obj)) (B : Addr → Prop) : List Value → List (Int × Int × Int) → Prop
  | nil : TriplesIn all B [] []
  | cons {r : Addr} {t u v : Tok} {a b c : Int} {vs : List Value} {ks : List (Int × Int × Int)} : (r, tupJ [Value.int a t, Value.int b u, Value.int c v]) ∈ all → B r → TriplesIn all B vs ks → TriplesIn all B (.ref r :: vs) ((a, b, c) :: ks)
theorem gates3_l {y : Int} (h : leapB y = true) : gates3 y = g3L := by unfold gates3; rw [if_pos h]
theorem gates3_c {y : Int} (h : leapB y = false) {a b : Bool} (ha : leapB (y - 1) = a) (hb : leapB (y + 1) = b) : gates3 y = g3C (if a = true then 42709 else 45360) (if b = true then 139524 else 130008) := by
  unfold gates3; rw [h, ha, hb]; rfl
section
variable {prog : Program} {w : World} {A : Around} {E : Value → Shared → Prop} {s : Shared} {h₀ : Heap} {L : Addr} {m : Str → Option Value} {env : Env}
def SrcTT (prog : Program) (w : World) (A : Around) (h₀ : Heap) (L : Addr) (m : Str → Option Value) (env : Env) (ct elt : Expr) (x : Str) (scope : Scope) (cl : List (Str × Addr)) (Fin : Shared → List Value → List (Addr × Obj) → Prop) (xv : Value) (s₁ : Shared) : Prop :=
  ∃ ax vs news, xv = .ref ax ∧ A.handled = none ∧ Fr h₀ L s₁.heap m ∧ News h₀ L s₁.heap news ∧ (ax, tupJ vs) ∈ news ∧ vs.length ≤ sizeLine ∧
    ∀ s₂ : Shared, (∃ h, s₂ = { s₁ with heap := h }) → LCt.CompRestT prog w A h₀ L m env ct elt x scope cl s₂ (fun nw => (ax, tupJ vs) ∈ nw) (fun i v => vs.toArray[i]? = some v) (Fin s₂) vs.toArray.size 0 [] news
theorem tup_st {ax I : Addr} {vs : List Value} : ∀ i (h h' : Heap) (o : Obj) (nw : List (Addr × Obj)), (h.IsTupleIter I ax i ∧ h.IsTuple ax vs.toArray) → h.get? I = some o → h'.get? I = some o → (∀ b o, h₀.get? b = some o → h'.get? b = some o) → News h₀ L h' nw → (ax, tupJ vs) ∈ nw → (h'.IsTupleIter I ax i ∧ h'.IsTuple ax vs.toArray) :=
  fun i h h' o nw st e e' k N S => ⟨by obtain ⟨o', q, r⟩ := st.1; rw [e] at q; cases q; exact ⟨o, e', r⟩, ⟨_, (N _ S).1, rfl, _, rfl⟩⟩
theorem ListComp_TT {ct elt iter : Expr} {x : Str} {px : Pos} {scope : Scope} {cl : List (Str × Addr)} {pos : Pos} {Q : Value → Shared → Prop} (F₀ : Fr h₀ L s.heap m)
    (hclos : closureFor scope env = pure cl) (hcell : ∀ y ∈ scope.names, y.2 ≠ .cell) (hkind : scope.kind = .function)
    (hnames : ∀ y ∈ scope.names, y.2 = .local → scope.names.lookup y.1 = some .local) (hx : scope.names.lookup x = some .local)
    (h : wpAny (model prog w) A (eval iter env) (SrcTT prog w A h₀ L m env ct elt x scope cl (fun s₂ => FinE h₀ L m s₂ Q)) E s)
    (hs : ∀ x, foldedSetIterable iter env x = pure x := by intro _; rfl) :
    wpAny (model prog w) A (eval (.ListComp elt [⟨.Name x px, iter, [ct], 0⟩] scope pos) env) Q E s := by
  rw [eval_ListComp]
  refine wpAny_comprehension_free (use := none) rfl hs hclos hkind hnames (wpAny_mono h (fun xv s₁ h₁ => ?_) fun _ _ e => e)
  obtain ⟨ax, vs, news, rfl, hh, F, N, hm, hsz, R⟩ := h₁
  have hl : s₁.heap.IsTuple ax vs.toArray := ⟨_, (N _ hm).1, rfl, _, rfl⟩
  have hlt : ax < s₁.heap.objs.size := Heap.lt_size (N _ hm).1
  refine wpAny_pyIter_tuple hl ?_
  have up : ∀ b o, s₁.heap.get? b = some o → (s₁.heap.push { cls := .type "tuple_iterator", data := .fields #[.ref ax, .int 0 0] }).get? b = some o := fun b o e => Heap.get?_push_of_some _ e
  refine LCt.block_T (Walks.tuple hh s₁.heap.objs.size ax (Nat.ne_of_lt hlt) vs.toArray) (by rw [List.size_toArray]; exact hsz) (fun i h st => by obtain ⟨o, e, _⟩ := st.1; exact ⟨o, e⟩) tup_st hcell hkind hx ⟨⟨_, Heap.get?_push_size _ rfl, rfl, rfl⟩, hl.at fun o e => Heap.get?_push_of_some _ e⟩ (fun b hb => ?_)
    (F.keeps up) (N.grown up) (Nat.ne_of_lt F.ns.lt) (next_is_new F) (fun p hp => Nat.ne_of_lt (Heap.lt_size (N p hp).1)) hm (R _ ⟨_, rfl⟩) ?_
  · show b < (s₁.heap.push _).objs.size
    rw [Heap.size_push]
    rcases List.mem_cons.mp hb with rfl | hb
    · exact Nat.lt_succ_self _
    · rw [List.mem_singleton.mp hb]; exact Nat.lt_succ_of_lt hlt
  · intro D C h tk m' ys news' F' N' o1 hn hC₀ hD₀ hCL hDL hCD offC fin
    refine ⟨m', hn, fun h'' hs'' => fin D h'' tk (F'.change hs'' hCL hC₀) (fun p hp => ?_) o1⟩
    refine ⟨hs''.extBut _ _ ?_ (N' p hp).1, (N' p hp).2⟩
    rcases List.mem_cons.mp hp with rfl | hp
    · exact Ne.symm hCD
    · exact offC p hp
/-- the refs of the rows that stand a test -/
inductive Picks (all : List (Addr × Obj)) (p : Int × Int × Int → Bool) : List (Int × Int × Int) → List Value → Prop
  | nil : Picks all p [] []
  | yes {r : Addr} {t u v : Tok} {a b c : Int} {ks : List (Int × Int × Int)} {ys : List Value} : p (a, b, c) = true → (r, tupJ [Value.int a t, Value.int b u, Value.int c v]) ∈ all → Picks all p ks ys → Picks all p ((a, b, c) :: ks) (.ref r :: ys)
  | no {k : Int × Int × Int} {ks : List (Int × Int × Int)} {ys : List Value} : p k = false → Picks all p ks ys → Picks all p (k :: ks) ys
theorem Picks.head {all : List (Addr × Obj)} {p : Int × Int × Int → Bool} {ks : List (Int × Int × Int)} {ys : List Value} (P : Picks all p ks ys) : ∀ {a b c : Int}, (ks.filter p).head? = some (a, b, c) → ∃ r t u v rest, ys = .ref r :: rest ∧ (r, tupJ [Value.int a t, Value.int b u, Value.int c v]) ∈ all := by
  induction P with
  | nil => intro a b c h; cases h
  | yes hp hm _ _ =>
    intro a b c h
    rw [List.filter_cons, if_pos hp] at h
    simp only [List.head?_cons, Option.some.injEq, Prod.mk.injEq] at h
    obtain ⟨rfl, rfl, rfl⟩ := h
    exact ⟨_, _, _, _, _, rfl, hm⟩
  | no hp _ ih =>
    intro a b c h
    rw [List.filter_cons, if_neg (by simp [hp])] at h
    exact ih h
end
section
variable {prog : Program} {w : World} {A : Around} {E : Value → Shared → Prop} {s₁ : Shared} {h₀ : Heap} {L : Addr} {m : Str → Option Value} {env : Env}
def ElPost (s : Shared) (h₀ : Heap) (L : Addr) (m : Str → Option Value) (led : List (Addr × Obj)) (r : Addr) (v : Value) (s' : Shared) : Prop :=
  ∃ h' tk', v = .ref r ∧ s' = { s with heap := h', toks := tk' } ∧ Fr h₀ L h' m ∧ News h₀ L h' led
theorem elPost {s : Shared} {led : List (Addr × Obj)} {r : Addr} {h' : Heap} {tk' : Nat} (F : Fr h₀ L h' m) (N : News h₀ L h' led) : ElPost s h₀ L m led r (.ref r) { s with heap := h', toks := tk' } := ⟨h', tk', rfl, rfl, F, N⟩
theorem filt3_rest {ct elt : Expr} {x : Str} {scope : Scope} {cl : List (Str × Addr)} {s : Shared} {S : List (Addr × Obj) → Prop} {Fin : List Value → List (Addr × Obj) → Prop} {news : List (Addr × Obj)} {B : Addr → Prop} {vs : List Value} {ks : List (Int × Int × Int)} (p : Int × Int × Int → Bool) (P : TriplesIn news B vs ks) (hS : S news)
    (test : ∀ r a b c t u v I oI C oC D m₂ ys h tk (E' : Value → Shared → Prop), NsObj oC m₂ → m₂ x = some (.ref r) → Fr h₀ L h m → News h₀ L h ((r, tupJ [Value.int a t, Value.int b u, Value.int c v]) :: (I, oI) :: (C, oC) :: (D, lst ys) :: news) →
      wpAny (model prog w) A (isTrue ct (compEnvC scope cl C env) (eval ct (compEnvC scope cl C env))) (TestPost { s with heap := h, toks := tk } h₀ L m ((r, tupJ [Value.int a t, Value.int b u, Value.int c v]) :: (I, oI) :: (C, oC) :: (D, lst ys) :: news) (p (a, b, c))) E' { s with heap := h, toks := tk })
    (elem : ∀ r I oI C oC D m₂ ys h tk (E' : Value → Shared → Prop), NsObj oC m₂ → m₂ x = some (.ref r) → Fr h₀ L h m → News h₀ L h ((I, oI) :: (C, oC) :: (D, lst ys) :: news) →
      wpAny (model prog w) A (eval elt (compEnvC scope cl C env)) (ElPost { s with heap := h, toks := tk } h₀ L m ((I, oI) :: (C, oC) :: (D, lst ys) :: news) r) E' { s with heap := h, toks := tk })
    (fin : ∀ ys, Picks news p ks ys → ys.length ≤ vs.length → Fin ys news) : LCt.CompRestT prog w A h₀ L m env ct elt x scope cl s S (fun i v => vs.toArray[i]? = some v) Fin vs.toArray.size 0 [] news := by
  have key : ∀ {vs2 : List Value} {ks2 : List (Int × Int × Int)}, TriplesIn news B vs2 ks2 → ∀ (pre ys : List Value), vs = pre ++ vs2 → ys.length ≤ pre.length → (∀ zs, Picks news p ks2 zs → Picks news p ks (ys ++ zs)) → LCt.CompRestT prog w A h₀ L m env ct elt x scope cl s S (fun i v => vs.toArray[i]? = some v) Fin vs2.length pre.length ys news := by
    intro vs2 ks2 P2
    induction P2 with
    | nil =>
      intro pre ys e hl acc
      exact LCt.CompRestT.zero (fin ys (by have := acc [] .nil; rwa [List.append_nil] at this) (by rw [e]; simpa using hl))
    | @cons r t u v a b c vs' ks' hm _ hr ih =>
      intro pre ys e hl acc
      refine LCt.CompRestT.succ ?_
      intro vv I oI C oC D m₂ h tk E' hv hC hx F N off ne
      have hv' : vv = .ref r := by
        have hv2 : vs[pre.length]? = some vv := by simpa using hv
        rw [e] at hv2
        simpa using hv2.symm
      subst hv'
      have Nd : News h₀ L h ((r, tupJ [Value.int a t, Value.int b u, Value.int c v]) :: (I, oI) :: (C, oC) :: (D, lst ys) :: news) := fun q hq => by
        rcases List.mem_cons.mp hq with rfl | hq
        · exact N _ (.tail _ (.tail _ (.tail _ hm)))
        · exact N q hq
      refine wpAny_mono (test r a b c t u v I oI C oC D m₂ ys h tk E' hC hx F Nd) (fun ok s₂ hq => ?_) fun _ _ e => e
      obtain ⟨h', tk', rfl, rfl, F2, N2⟩ := hq
      have N2' : News h₀ L h' ((I, oI) :: (C, oC) :: (D, lst ys) :: news) := fun q hq => N2 q (.tail _ hq)
      cases hb : p (a, b, c) with
      | true =>
        simp only [if_true]
        refine wpAny_mono (elem r I oI C oC D m₂ ys h' tk' E' hC hx F2 N2') (fun z s₃ hz => ?_) fun _ _ e => e
        obtain ⟨h'', tk'', rfl, rfl, F3, N3⟩ := hz
        refine LCg.CompEnd.intro F3 N3 news (fun p hp => hp) off hS ?_
        have := ih (pre ++ [.ref r]) (ys ++ [.ref r]) (by rw [e]; simp) (by simp; omega) fun zs hz => by
          have := acc (.ref r :: zs) (.yes hb hm hz)
          simpa using this
        simpa using this
      | false =>
        simp only [Bool.false_eq_true, if_false]
        refine LCg.CompEnd.intro F2 N2' news (fun p hp => hp) off hS ?_
        have := ih (pre ++ [.ref r]) ys (by rw [e]; simp) (by simp; omega) fun zs hz => acc zs (.no hb hz)
        simpa using this
  have := key P [] [] rfl (Nat.le_refl _) (fun zs hz => hz)
  rw [List.size_toArray]
  exact this
theorem src_rows {y P : Int} {ct elt : Expr} {x : Str} {scope : Scope} {cl : List (Str × Addr)} {Q : Value → Shared → Prop} {r : Addr} {vs : List Value} {all news : List (Addr × Obj)} {B : Addr → Prop} (_ : YY y) (hP : P = p3 y)
    (hh : A.handled = none) (F : Fr h₀ L s₁.heap m) (N : News h₀ L s₁.heap (news ++ all)) (hm : (r, tupJ vs) ∈ all) (T : TriplesIn all B vs (gates3 y))
    (test : ∀ r a b c t u v I oI C oC D m₂ ys h tk (E' : Value → Shared → Prop), NsObj oC m₂ → m₂ x = some (.ref r) → Fr h₀ L h m → News h₀ L h ((r, tupJ [Value.int a t, Value.int b u, Value.int c v]) :: (I, oI) :: (C, oC) :: (D, lst ys) :: (news ++ all)) →
      wpAny (model prog w) A (isTrue ct (compEnvC scope cl C env) (eval ct (compEnvC scope cl C env))) (TestPost { s₁ with heap := h, toks := tk } h₀ L m ((r, tupJ [Value.int a t, Value.int b u, Value.int c v]) :: (I, oI) :: (C, oC) :: (D, lst ys) :: (news ++ all)) (decide (P < a))) E' { s₁ with heap := h, toks := tk })
    (elem : ∀ r I oI C oC D m₂ ys h tk (E' : Value → Shared → Prop), NsObj oC m₂ → m₂ x = some (.ref r) → Fr h₀ L h m → News h₀ L h ((I, oI) :: (C, oC) :: (D, lst ys) :: (news ++ all)) →
      wpAny (model prog w) A (eval elt (compEnvC scope cl C env)) (ElPost { s₁ with heap := h, toks := tk } h₀ L m ((I, oI) :: (C, oC) :: (D, lst ys) :: (news ++ all)) r) E' { s₁ with heap := h, toks := tk })
    (fin : ∀ D h tk k t0 t1 t2 l rest n, Fr h₀ L h m → News h₀ L h ((k, tupJ [Value.int l t0, Value.int (op y + 1) t1, Value.int (yl y) t2]) :: (D, listOf (Value.ref k :: rest).toArray n) :: news) → Q (.ref D) { s₁ with heap := h, toks := tk }) :
    SrcTT prog w A h₀ L m env ct elt x scope cl (fun s₂ => FinE h₀ L m s₂ Q) (.ref r) s₁ := by
  have T' : TriplesIn (news ++ all) B vs (gates3 y) := by
    generalize gates3 y = ks at T
    clear hm
    induction T with
    | nil => exact .nil
    | cons a b _ ih => exact .cons (List.mem_append.mpr (.inr a)) b ih
  have hlen : vs.length = 8 := by
    have : vs.length = (gates3 y).length := by
      generalize gates3 y = ks at T'
      clear hm T
      induction T' with
      | nil => rfl
      | cons _ _ _ ih => simp [ih]
    rw [this]; unfold gates3; split <;> rfl
  refine ⟨r, vs, news ++ all, rfl, hh, F, N, List.mem_append.mpr (.inr hm), by rw [hlen, sizeLine_eq]; omega, ?_⟩
  rintro s₂ ⟨g, rfl⟩
  refine filt3_rest (below P) T' (List.mem_append.mpr (.inr hm)) test elem fun ys hy _ => ?_
  intro D h tk F' N' o1
  obtain ⟨⟨l, hk⟩, _⟩ := kind3 y
  rw [← hP] at hk
  obtain ⟨k, t0, t1, t2, rest, rfl, hkm⟩ := hy.head hk
  refine fin D h tk k t0 t1 t2 l rest (Value.ref k :: rest).length F' ?_
  intro q hq
  rcases List.mem_cons.mp hq with rfl | hq
  · exact N' _ (.tail _ hkm)
  rcases List.mem_cons.mp hq with rfl | hq
  · exact N' _ (.head _)
  · exact N' q (.tail _ (List.mem_append.mpr (.inl hq)))
end
section
variable {prog : Program} {w : World} {A : Around} {E : Value → Shared → Prop} {s : Shared} {env : Env} {h₀ : Heap} {x : Str} {body : List Stmt} {Q : Flow → Shared → Prop}
theorem mo_one : mo 1 = 0 := by decide
theorem mo_step (n : Int) : (leapB n = true → mo (n + 1) = mo n + 13) ∧ (leapB n = false → mo (n + 1) = mo n + 12) := by
  have h := mo_next n
  exact ⟨fun e => by rw [h, if_pos e], fun e => by rw [h, if_neg (by simp [e])]⟩
theorem iterRange_mo {r : Addr} {b₀ : Int} {t₀ u₀ v₀ : Tok} {m₀ : Str → Option Value} {news : List (Addr × Obj)} {y : Str} {c : Int} {tc : Tok}
    (hh : A.handled = none) (hr : IsRange s.heap r 1 b₀ 1 t₀ u₀ v₀) (hsmall : Builtin.Range.small 1 b₀ 1 = true) (hn : Builtin.Range.rangeSize 1 b₀ 1 = (((b₀ - 1).toNat : Nat) : Int)) (F : Fr h₀ env.locals s.heap m₀) (N : News h₀ env.locals s.heap news) (hy : m₀ y = some (.int c tc))
    (turn : ∀ (i : Nat) t ta h tk own, i < (b₀ - 1).toNat → ((leapB (1 + (i : Int)) = true → mo (1 + (i : Int) + 1) = mo (1 + (i : Int)) + 13) ∧ (leapB (1 + (i : Int)) = false → mo (1 + (i : Int) + 1) = mo (1 + (i : Int)) + 12)) → OwnOff own (news.map (·.1)) → Fr h₀ env.locals h (fun z => if z = x then some (.int (1 + (i : Int)) t) else if z = y then some (.int (c + mo (1 + (i : Int))) ta) else m₀ z) → News h₀ env.locals h (news ++ own) →
      wpAny (model prog w) A (execs body env) (InvPostN h₀ env.locals (fun m' nx => nx = news ∧ (∃ c' t', m' y = some (.int c' t') ∧ c' = c + mo (1 + (i : Int) + 1)) ∧ ∀ z, z ≠ x → z ≠ y → m' z = m₀ z) own (news.map (·.1)) { s with heap := h, toks := tk } Q) E { s with heap := h, toks := tk })
    (done : ∀ (u : Str → Option Value) t h tk, Fr h₀ env.locals h (fun z => if z = x then u z else if z = y then some (.int (c + mo (1 + (((b₀ - 1).toNat : Nat) : Int))) t) else m₀ z) → News h₀ env.locals h news → Q .next { s with heap := h, toks := tk }) :
    wpAny (model prog w) A (pyIter (.ref r)) (fun it s₂ => LoopAtV prog w A h₀ env x body Q E it s₂) E s := by
  refine wpAny_pyIter_range hr hsmall ?_
  have W : Walks prog w A s.heap.objs.size [s.heap.objs.size] [s.heap.objs.size] (b₀ - 1).toNat (fun i v => i < (b₀ - 1).toNat ∧ ∃ t, v = .int (1 + i * 1) t)
      (fun i h => IsRangeIter h s.heap.objs.size (1 + (i : Nat) * 1) ((((b₀ - 1).toNat : Nat) : Int) - (i : Nat)) 1) := (Walks.range hh _ 1 1 (b₀ - 1).toNat).bound
  refine loop_invN (fun i m nx => nx = news ∧ (∃ c' t, m y = some (.int c' t) ∧ c' = c + mo (1 + (i : Int))) ∧ ∀ z, z ≠ x → z ≠ y → m z = m₀ z) W ?_ ?_ ?_ ?_ (by show IsRangeIter _ _ _ _ _; rw [hn]; simpa using Heap.get?_push_size _ rfl) (F.push _) (fun p hp => ⟨Heap.get?_push_of_some _ (N p hp).1, (N p hp).2⟩) ⟨rfl, ⟨c, tc, hy, by simp [mo_one]⟩, fun _ _ _ => rfl⟩ ?_ ?_
  · intro hm
    exact absurd F.ns.lt ((List.mem_singleton.mp hm) ▸ Nat.lt_irrefl _)
  · intro b hb
    rw [List.mem_singleton.mp hb]
    exact next_is_new F
  · intro p hp hI
    exact absurd (Heap.lt_size (N p hp).1) ((List.mem_singleton.mp hI) ▸ Nat.lt_irrefl _)
  · intro p hp hI
    exact absurd (Heap.lt_size (N p hp).1) ((List.mem_singleton.mp hI) ▸ Nat.lt_irrefl _)
  · rintro i v m₁ nx h tk own hi ⟨_, t, rfl⟩ _ hoff ⟨rfl, ⟨c', ta, ha, rfl⟩, hm⟩ F₁ N₁
    rw [map_one ha hm, Int.mul_one] at F₁
    have e : (1 : Int) + ((i + 1 : Nat) : Int) = 1 + (i : Int) + 1 := by omega
    rw [e]
    exact turn i t ta h tk own hi (mo_step _) hoff F₁ N₁
  · rintro m₁ nx h tk ⟨rfl, ⟨c', t, ha, rfl⟩, hm⟩ F₁ N₁
    refine done m₁ t h tk ?_ N₁
    rw [done_one ha hm]; exact F₁
end
theorem months3 {y k : Int} (hk : k = 1 + (y - 1) % 19) : 235 * ((y - 1) / 19) + mo k = mo y := by
  subst hk
  obtain ⟨q, r, h, hr⟩ := by19 (y - 1)
  have e1 : (y - 1) / 19 = q := by omega
  have e2 : (y - 1) % 19 = r := by omega
  have e3 : y = 19 * q + r + 1 := by omega
  rw [e1, e2, e3]
  unfold mo
  omega
theorem p3_of {y k : Int} (hk : k = 1 + (y - 1) % 19) : (31524 + 765433 * (235 * ((y - 1) / 19) + mo k)) % 181440 = p3 y := by rw [months3 hk]; rfl
theorem e3_of {y k : Int} (hk : k = 1 + (y - 1) % 19) : (31524 + 765433 * (235 * ((y - 1) / 19) + mo k)) / 25920 = e3 y := by rw [months3 hk]; rfl
theorem bne_split {a b : Int} {T F : Prop} (t : a ≠ b → T) (f : a = b → F) : WhlIf (a != b) T F := by
  by_cases h : a = b
  · exact WhlIf.no (by simp [h]) (f h)
  · exact WhlIf.yes (by simp [h]) (t h)
end Mine
end
section
set_option maxRecDepth 100000
namespace Mine
open PySem PySem.W PySem.Calls PyProof.Rows PyProof.V PySem.Spec PyProof.Rows.LCg
section
variable {prog : Program} {w : World} {A : Around} {E : Value → Shared → Prop} {Q : Flow → Shared → Prop} {s : Shared} {env : Env} {h₀ : Heap} {L : Addr}
/-! the evening's loop -/
def EvEnd (h₀ : Heap) (L : Addr) (s : Shared) (m : Str → Option Value) (x : Str) (k' T : Int) (news : List (Addr × Obj)) (f : Flow) (s₃ : Shared) : Prop :=
  f = .next ∧ k' ≤ T ∧ ∃ h' tk t', s₃ = { s with heap := h', toks := tk } ∧ Fr h₀ L h' (fun z => if z = x then some (.int k' t') else m z) ∧ News h₀ L h' news
theorem EvEnd.intro {h' : Heap} {m m' : Str → Option Value} {x : Str} {k' T : Int} {news led : List (Addr × Obj)} {tk : Nat} (F : Fr h₀ L h' m') (N : News h₀ L h' led) (hT : k' ≤ T) (hx : ∃ t', m' x = some (.int k' t')) (hz : ∀ z, z ≠ x → m' z = m z) (hn : ∀ p ∈ news, p ∈ led) :
    EvEnd h₀ L s m x k' T news .next { s with heap := h', toks := tk } := by
  obtain ⟨t', hx⟩ := hx
  refine ⟨rfl, hT, h', tk, t', rfl, ?_, fun p hp => N p (hn p hp)⟩
  have e : (fun z => if z = x then some (Value.int k' t') else m z) = m' := by
    funext z
    by_cases h : z = x
    · subst h; simp [hx]
    · simp only [if_neg h]; exact (hz z h).symm
  rw [e]; exact F
theorem while_even {test : Expr} {body : List Stmt} {pos : Pos} {m : Str → Option Value} {news : List (Addr × Obj)} {y k₀ : Int} {t₀ : Tok} {x : Str} (_ : YY y)
    (F : Fr h₀ L s.heap m) (N : News h₀ L s.heap news) (hm : m x = some (.int k₀ t₀)) (hk : k₀ = e3 y)
    (turn : ∀ k t h tk, (k = 7 * wk y + op y + 1 ∧ k % 7 = op y + 1 ∨ k < 7 * wk y + op y + 1 ∧ k % 7 ≠ op y + 1) → Fr h₀ L h (fun z => if z = x then some (.int k t) else m z) → News h₀ L h news →
      wpAny (model prog w) A (isTrue test env (eval test env)) (fun b s₂ => WhlIf b (wpAny (model prog w) A (execs body env) (EvEnd h₀ L s m x (k + 1) (7 * wk y + op y + 1) news) E s₂) (Q .next s₂)) E { s with heap := h, toks := tk })
    (hE : PassesOwn (model prog w) A env E := by passes_own) : wpAny (model prog w) A (exec (.While test body [] pos) env) Q E s := by
  obtain ⟨_, k1, k2, k3⟩ := kind3 y
  have o := op_bnd y
  refine While_inv (fun n m₁ nw => nw = news ∧ ∃ k t, m₁ = (fun z => if z = x then some (.int k t) else m z) ∧ e3 y ≤ k ∧ k ≤ 7 * wk y + op y + 1 ∧ n = (7 * wk y + op y + 1 - k).toNat) F N ⟨rfl, k₀, t₀, ?_, by omega, by omega, rfl⟩ ?_ hE
  · funext z
    by_cases h : z = x
    · subst h; simp [hm]
    · simp only [if_neg h]
  · rintro n m₁ nw h₁ tk₁ F₁ N₁ ⟨rfl, k, t, rfl, h1, h2, rfl⟩
    refine wpAny_mono (turn k t h₁ tk₁ (by omega) F₁ N₁) (fun b s₂ q => ?_) fun _ _ e => e
    unfold WhlIf at q
    cases b with
    | false => simpa using q
    | true =>
      simp only [if_true] at q ⊢
      refine wpAny_mono q (fun f s₃ q => ?_) fun _ _ e => e
      obtain ⟨rfl, hT, h', tk, t', rfl, F', N'⟩ := q
      exact WhileStep.intro F' N' (n' := (7 * wk y + op y + 1 - (k + 1)).toNat) (by omega) ⟨rfl, k + 1, t', rfl, by omega, hT, rfl⟩
/-! the months' rows, with the year they are of -/
structure RowF (y o k l D : Int) : Prop where
  ow : (o = y ∧ D + l ≤ dn (y + 1) 7 1 + 1) ∨ (o = y + 1 ∧ k = 7 ∧ D = dn (y + 1) 7 1 + 1)
  k1 : 1 ≤ k
  k2 : k ≤ ym o
  le : l = mlen o k
  l2 : l = 29 ∨ l = 30
  dd : D = dn o k 1 + 1
def Chain3 (y : Int) : Int → List (Int × Int × Int) → Prop
  | D, [] => D = dn (y + 1) 7 1 + 31
  | D, (o, k, l) :: r => RowF y o k l D ∧ Chain3 y (D + l) r
theorem Chain3.nth {y : Int} : ∀ {ks : List (Int × Int × Int)} {D : Int}, Chain3 y D ks → ∀ {i : Nat} {o k l : Int}, ks[i]? = some (o, k, l) → RowF y o k l (D + ((ks.take i).map (fun r => r.2.2)).sum) := by
  intro ks
  induction ks with
  | nil => intro D _ i o k l h; simp at h
  | cons r ks ih =>
    obtain ⟨a, b, c⟩ := r
    intro D hC i o k l h
    obtain ⟨h1, h2⟩ := hC
    cases i with
    | zero =>
      simp only [List.getElem?_cons_zero, Option.some.injEq, Prod.mk.injEq] at h
      obtain ⟨rfl, rfl, rfl⟩ := h
      simpa using h1
    | succ i =>
      have := ih h2 (i := i) (by simpa using h)
      simpa [Int.add_assoc] using this
theorem Chain3.tot {y : Int} : ∀ {ks : List (Int × Int × Int)} {D : Int}, Chain3 y D ks → D + (ks.map (fun r => r.2.2)).sum = dn (y + 1) 7 1 + 31 := by
  intro ks
  induction ks with
  | nil => intro D h; simpa [Chain3] using h
  | cons r ks ih =>
    obtain ⟨a, b, c⟩ := r
    intro D hC
    have := ih hC.2
    simpa [Int.add_assoc] using this
theorem trip_at {all : List (Addr × Obj)} {B : Addr → Prop} {vs : List Value} {ks : List (Int × Int × Int)} (P : TriplesIn all B vs ks) : ∀ {i : Nat}, i < ks.length → ∃ o k l r t u v, ks[i]? = some (o, k, l) ∧ vs[i]? = some (.ref r) ∧ (r, tupJ [Value.int o t, Value.int k u, Value.int l v]) ∈ all := by
  induction P with
  | nil => intro i h; simp at h
  | cons hm _ _ ih =>
    intro i h
    cases i with
    | zero => exact ⟨_, _, _, _, _, _, _, rfl, rfl, hm⟩
    | succ i =>
      obtain ⟨o, k, l, r, t, u, v, h1, h2, h3⟩ := ih (i := i) (by simpa using h)
      exact ⟨o, k, l, r, t, u, v, by simpa using h1, by simpa using h2, h3⟩
def RowEnd (h₀ : Heap) (L : Addr) (s : Shared) (m : Str → Option Value) (xa xf : Str) (i : Nat) (f' number : Int) (news : List (Addr × Obj)) (f : Flow) (s₃ : Shared) : Prop :=
  f = .next ∧ f' ≤ number ∧ ∃ h' tk t1 t2, s₃ = { s with heap := h', toks := tk } ∧ Fr h₀ L h' (fun z => if z = xa then some (.int ((i : Int) + 1) t1) else if z = xf then some (.int f' t2) else m z) ∧ News h₀ L h' news
theorem fr_two {m m' : Str → Option Value} {xa xf : Str} {a b : Value} (h1 : m' xa = some a) (h2 : m' xf = some b) (hz : ∀ z, z ≠ xa → z ≠ xf → m' z = m z) : m' = fun z => if z = xa then some a else if z = xf then some b else m z := by
  funext z
  by_cases h : z = xa
  · subst h; simp [h1]
  · by_cases h' : z = xf
    · subst h'; simp [h2, h]
    · simp only [if_neg h, if_neg h']; exact hz z h h'
theorem RowEnd.intro {h' : Heap} {m m' : Str → Option Value} {xa xf : Str} {i : Nat} {f' number : Int} {news led : List (Addr × Obj)} {tk : Nat} (F : Fr h₀ L h' m') (N : News h₀ L h' led) (hT : f' ≤ number) (ha : ∃ t, m' xa = some (.int ((i : Int) + 1) t)) (hf : ∃ t, m' xf = some (.int f' t)) (hz : ∀ z, z ≠ xa → z ≠ xf → m' z = m z) (hn : ∀ p ∈ news, p ∈ led) :
    RowEnd h₀ L s m xa xf i f' number news .next { s with heap := h', toks := tk } := by
  obtain ⟨t1, ha⟩ := ha
  obtain ⟨t2, hf⟩ := hf
  exact ⟨rfl, hT, h', tk, t1, t2, rfl, by rw [← fr_two ha hf hz]; exact F, fun p hp => N p (hn p hp)⟩
theorem while_rows {test : Expr} {body : List Stmt} {pos : Pos} {m : Str → Option Value} {news all : List (Addr × Obj)} {B : Addr → Prop} {y f₀ number : Int} {ta tf : Tok} {xa xf : Str} {vs : List Value} {ks : List (Int × Int × Int)} (_ : YY y)
    (F : Fr h₀ L s.heap m) (N : News h₀ L s.heap news) (xr : Str) {rl : Addr} {nr : Nat} (_ : m xr = some (.ref rl)) (_ : (rl, listOf vs.toArray nr) ∈ news) (P : TriplesIn all B vs ks) (S : ∀ p ∈ all, p ∈ news) (hma : m xa = some (.int 0 ta)) (hmf : m xf = some (.int f₀ tf)) (C : Chain3 y f₀ ks) (hlo : f₀ ≤ number) (hhi : number < dn (y + 1) 7 1 + 31)
    (turn : ∀ (i : Nat) f r o k l (t u v ta tf : Tok) h tk, vs[i]? = some (.ref r) → i < 64 → RowF y o k l f → f ≤ number → Fr h₀ L h (fun z => if z = xa then some (.int (i : Int) ta) else if z = xf then some (.int f tf) else m z) → News h₀ L h ((r, tupJ [Value.int o t, Value.int k u, Value.int l v]) :: news) →
      wpAny (model prog w) A (isTrue test env (eval test env)) (fun b s₂ => WhlIf b (wpAny (model prog w) A (execs body env) (RowEnd h₀ L s m xa xf i (f + l) number news) E s₂) (Q .next s₂)) E { s with heap := h, toks := tk })
    (hl : ks.length ≤ 64) (hE : PassesOwn (model prog w) A env E := by passes_own) : wpAny (model prog w) A (exec (.While test body [] pos) env) Q E s := by
  have tot := C.tot
  refine While_inv (fun n m₁ nw => nw = news ∧ ∃ i : Nat, ∃ f ta tf, m₁ = (fun z => if z = xa then some (.int (i : Int) ta) else if z = xf then some (.int f tf) else m z) ∧ f = f₀ + ((ks.take i).map (fun r => r.2.2)).sum ∧ f ≤ number ∧ i ≤ ks.length ∧ n = ks.length - i) F N ⟨rfl, 0, f₀, ta, tf, fr_two hma hmf fun _ _ _ => rfl, by simp, hlo, by omega, rfl⟩ ?_ hE
  rintro n m₁ nw h₁ tk₁ F₁ N₁ ⟨rfl, i, f, ta', tf', rfl, hf, h1, h2, rfl⟩
  have hi : i < ks.length := by
    rcases Nat.lt_or_ge i ks.length with h | h
    · exact h
    · rw [List.take_of_length_le h] at hf; omega
  obtain ⟨o, k, l, r, t, u, v, e1, e2, e3⟩ := trip_at P hi
  have R := C.nth e1
  rw [← hf] at R
  have N₁' : News h₀ L h₁ ((r, tupJ [Value.int o t, Value.int k u, Value.int l v]) :: nw) := fun p hp => by
    rcases List.mem_cons.mp hp with rfl | hp
    · exact N₁ _ (S _ e3)
    · exact N₁ p hp
  refine wpAny_mono (turn i f r o k l t u v ta' tf' h₁ tk₁ e2 (by omega) R h1 F₁ N₁') (fun b s₂ q => ?_) fun _ _ e => e
  unfold WhlIf at q
  cases b with
  | false => simpa using q
  | true =>
    simp only [if_true] at q ⊢
    refine wpAny_mono q (fun f s₃ q => ?_) fun _ _ e => e
    obtain ⟨rfl, hT, h', tk, t1, t2, rfl, F', N'⟩ := q
    refine WhileStep.intro F' N' (n' := ks.length - (i + 1)) (by omega) ⟨rfl, i + 1, _, t1, t2, rfl, ?_, hT, hi, rfl⟩
    rw [hf, List.take_add_one, e1]
    simp [Int.add_assoc]
end
section
variable {prog : Program} {w : World} {A : Around} {E : Value → Shared → Prop} {s : Shared} {env : Env} {h₀ : Heap} {L a : Addr} {news : List (Addr × Obj)} {Q : Value → Shared → Prop} {value slice : Expr} {u : Tok}
theorem r_row {vs : List Value} {n i : Nat} {r : Addr} (hr : vs[i]? = some (.ref r)) (hi : i < 64) (N : News h₀ L s.heap news) (hm : (a, listOf vs.toArray n) ∈ news) (h : Q (.ref r) s)
    (hs : subscripted slice false (.ref a) (.int (i : Int) u) = operate [.ref a, .int (i : Int) u] (getItem (.ref a) (.int (i : Int) u))) (hg' : ∀ r, letTemporaryGo value (.ref a) r = pure ()) :
    wpAny (model prog w) A (subscriptTail value slice (.ref a) (.int (i : Int) u)) Q E s :=
  kim_list (lo := listOf vs.toArray n) (l := vs) N hm rfl rfl (by omega) (by omega) (by simpa using hr) h hs hg'
theorem r_tup {l : List Value} {r : Addr} {k : Int} {j : Nat} {x : Value} (hlo : 0 ≤ k ∧ k < 64) (N : News h₀ L s.heap news) (hm : (r, tupJ l) ∈ news) (hj : seqIndex? k l.length = some j) (hx : l[j]? = some x) (h : Q x s)
    (hs : subscripted slice false (.ref r) (.int k u) = operate [.ref r, .int k u] (getItem (.ref r) (.int k u))) (hg' : ∀ q, letTemporaryGo value (.ref r) q = pure ()) :
    wpAny (model prog w) A (subscriptTail value slice (.ref r) (.int k u)) Q E s :=
  kim_tup N hm rfl rfl (by omega) (by omega) hj hx h hs hg'
/-! both branches of a choice of two numbers in one -/
def IfJoin (a b v : Int) (Q : Value → Shared → Prop) (c : Bool) (s₂ : Shared) : Prop := (c = true → v = a) ∧ (c = false → v = b) ∧ ∀ t tk, Q (.int v t) { s₂ with toks := tk }
end
section
variable {M : Model} {A : Around} {E : Value → Shared → Prop} {s : Shared} {env : Env} {Q : Value → Shared → Prop} {y : Int} {test : Expr} {ka kb : Nat} {p1 p2 pos : Pos}
theorem if_join {a b : Int} (v : Int) (h : wpAny M A (isTrue test env (eval test env)) (IfJoin a b v Q) E s) : wpAny M A (eval (.IfExp test (.Constant (.int a) ka p1) (.Constant (.int b) kb p2) pos) env) Q E s := by
  refine IfExp_ (wpAny_mono h (fun c s₂ q => ?_) fun _ _ e => e)
  obtain ⟨q1, q2, q3⟩ := q
  cases c with
  | true =>
    have := q1 rfl
    subst this
    exact wpAny_Constant_int (q3 _ _)
  | false =>
    have := q2 rfl
    subst this
    exact wpAny_Constant_int (q3 _ _)
theorem if_8 (_ : YY y) (h : wpAny M A (isTrue test env (eval test env)) (IfJoin 30 29 (mlen y 8) Q) E s) : wpAny M A (eval (.IfExp test (.Constant (.int 30) ka p1) (.Constant (.int 29) kb p2) pos) env) Q E s := if_join _ h
theorem if_9 (_ : YY y) (h : wpAny M A (isTrue test env (eval test env)) (IfJoin 29 30 (mlen y 9) Q) E s) : wpAny M A (eval (.IfExp test (.Constant (.int 29) ka p1) (.Constant (.int 30) kb p2) pos) env) Q E s := if_join _ h
end
theorem j8 (y : Int) : (([355, 385] : List Int).any (fun x => x == yl y) = true → mlen y 8 = 30) ∧ (([355, 385] : List Int).any (fun x => x == yl y) = false → mlen y 8 = 29) := by
  have h := yl_six y
  have m := ml_8 y
  constructor
  · intro e
    simp at e
    exact m.1 (by omega)
  · intro e
    simp at e
    exact m.2 (by omega)
theorem j9 (y : Int) : (([353, 383] : List Int).any (fun x => x == yl y) = true → mlen y 9 = 29) ∧ (([353, 383] : List Int).any (fun x => x == yl y) = false → mlen y 9 = 30) := by
  have h := yl_six y
  have m := ml_9 y
  constructor
  · intro e
    simp at e
    exact m.1 (by omega)
  · intro e
    simp at e
    exact m.2 (by omega)
theorem trip_chain (y : Int) : Chain3 y (ny y + 2) ((rowsOf y).map (fun r => (y, r.1, r.2)) ++ [(y + 1, 7, 30)]) := by
  have key : ∀ (rs : List (Int × Int)) (D : Int), (∀ r ∈ rs, r.1 ≤ ym y) → Chain y D rs → Chain3 y (D + 1) (rs.map (fun r => (y, r.1, r.2)) ++ [(y + 1, 7, 30)]) ∧ D ≤ dn (y + 1) 7 1 := by
    intro rs
    induction rs with
    | nil =>
      intro D _ h
      have h' : D = dn (y + 1) 7 1 := h
      have f := (ml_fix (y + 1)).2.2.2.2.2.2.1
      have hm := ym_cases (y + 1)
      refine ⟨⟨⟨.inr ⟨rfl, rfl, by omega⟩, by omega, by omega, by omega, by omega, by omega⟩, ?_⟩, by omega⟩
      show D + 1 + 30 = _
      omega
    | cons r rs ih =>
      obtain ⟨k, l⟩ := r
      intro D hb h
      obtain ⟨h1, h2, h3, h4, h5⟩ := h
      have h4 : D = dn y k 1 := h4
      have h3 : l = mlen y k := h3
      have hk := hb (k, l) (.head _)
      have hl := mlen_bnd y k
      obtain ⟨i1, i2⟩ := ih (D + l) (fun r hr => hb r (.tail _ hr)) h5
      refine ⟨⟨⟨.inl ⟨rfl, by omega⟩, h1, hk, h3, by show l = 29 ∨ l = 30; omega, by show D + 1 = dn y k 1 + 1; omega⟩, ?_⟩, by omega⟩
      rw [show D + 1 + l = D + l + 1 by omega]
      exact i1
  have := (key (rowsOf y) (dn y 7 1) (fun r hr => ?_) (chain_rows y)).1
  · rw [dn7] at this
    rw [show ny y + 2 = ny y + 1 + 1 by omega]
    exact this
  · unfold rowsOf monthsOf at hr
    rcases ym_cases y with ⟨h, h'⟩ | ⟨h, h'⟩
    · rw [if_pos h] at hr
      simp only [List.map_cons, List.map_nil, List.mem_cons, List.not_mem_nil, or_false] at hr
      rcases hr with rfl | rfl | rfl | rfl | rfl | rfl | rfl | rfl | rfl | rfl | rfl | rfl | rfl <;> simp only <;> omega
    · rw [if_neg (by simp [h])] at hr
      simp only [List.map_cons, List.map_nil, List.mem_cons, List.not_mem_nil, or_false] at hr
      rcases hr with rfl | rfl | rfl | rfl | rfl | rfl | rfl | rfl | rfl | rfl | rfl | rfl <;> simp only <;> omega
theorem chain_l {y : Int} (h : leapB y = true) : Chain3 y (ny y + 2) [(y, 7, 30), (y, 8, mlen y 8), (y, 9, mlen y 9), (y, 10, 29), (y, 11, 30), (y, 12, 30), (y, 13, 29), (y, 1, 30), (y, 2, 29), (y, 3, 30), (y, 4, 29), (y, 5, 30), (y, 6, 29), (y + 1, 7, 30)] := by
  have c := trip_chain y
  obtain ⟨f1, f2, f3, f4, f5, f6, f7, f10, f11, f13⟩ := ml_fix y
  unfold rowsOf monthsOf at c
  rw [if_pos h] at c
  simp only [List.map_cons, List.map_nil, List.cons_append, List.nil_append, f1, f2, f3, f4, f5, f6, f7, f10, f11, f13, (ml_12 y).1 h] at c
  exact c
theorem chain_c {y : Int} (h : leapB y = false) : Chain3 y (ny y + 2) [(y, 7, 30), (y, 8, mlen y 8), (y, 9, mlen y 9), (y, 10, 29), (y, 11, 30), (y, 12, 29), (y, 1, 30), (y, 2, 29), (y, 3, 30), (y, 4, 29), (y, 5, 30), (y, 6, 29), (y + 1, 7, 30)] := by
  have c := trip_chain y
  obtain ⟨f1, f2, f3, f4, f5, f6, f7, f10, f11, f13⟩ := ml_fix y
  unfold rowsOf monthsOf at c
  rw [if_neg (by simp [h])] at c
  simp only [List.map_cons, List.map_nil, List.cons_append, List.nil_append, f1, f2, f3, f4, f5, f6, f7, f10, f11, f13, (ml_12 y).2 h] at c
  exact c
end Mine
end
section
set_option maxRecDepth 100000
namespace Mine
open PySem PySem.W PySem.Calls PyProof.Rows PyProof.V PySem.Spec PyProof.Rows.LCg
/-! the leaf, day by day -/
def lstep (d : Nat) (s : List PyData × List PyData) : List PyData × List PyData :=
  if s.2.length + 1 = 7 then (s.1 ++ [.list (s.2 ++ [.int (1 + (d : Int))])], []) else (s.1, s.2 ++ [.int (1 + (d : Int))])
def lrun (c : Nat) : Nat → List PyData × List PyData
  | 0 => ([], List.replicate c PyData.none)
  | d + 1 => lstep d (lrun c d)
def lfin (s : List PyData × List PyData) : List PyData := if s.2.length = 0 then s.1 else s.1 ++ [.list (s.2 ++ List.replicate (7 - s.2.length) PyData.none)]
theorem lfin_cal {c ml : Nat} (h : c < 7) (h' : ml = 29 ∨ ml = 30) : calD c ml = .list (lfin (lrun c ml)) := by
  rcases (show c = 0 ∨ c = 1 ∨ c = 2 ∨ c = 3 ∨ c = 4 ∨ c = 5 ∨ c = 6 by omega) with rfl | rfl | rfl | rfl | rfl | rfl | rfl <;> rcases h' with rfl | rfl <;> rfl
theorem lrun_len {c : Nat} (h : c < 7) (d : Nat) : (lrun c d).2.length < 7 := by
  induction d with
  | zero => simpa [lrun] using h
  | succ d ih =>
    show (lstep d (lrun c d)).2.length < 7
    unfold lstep
    split
    · simp
    · simp; omega
theorem car_len {vs : List Value} {ds : List PyData} (h : CarriedAll vs ds) : vs.length = ds.length := by
  induction h with
  | nil => rfl
  | cons _ _ ih => simp [ih]
theorem leaf_none {all : List (Addr × Obj)} {c ml : Nat} {W : Addr} {n : Nat} {ws rs : List Value} (h : c < 7) (h' : ml = 29 ∨ ml = 30) (C : CarriedAll ws (lrun c ml).2) (B : BearsAll all rs (lrun c ml).1) (e : ws.length = 0) (m : (W, listOf rs.toArray n) ∈ all) : Bears all (.ref W) (calD c ml) := by
  rw [lfin_cal h h']
  have hl := car_len C
  unfold lfin
  rw [if_pos (by omega)]
  exact bears_list m B
theorem leaf_some {all : List (Addr × Obj)} {c ml : Nat} {W P : Addr} {n k : Nat} {ws rs : List Value} {arr : Array Value} (h : c < 7) (h' : ml = 29 ∨ ml = 30) (C : CarriedAll ws (lrun c ml).2) (B : BearsAll all rs (lrun c ml).1) (e : ws.length ≠ 0) (m : (W, listOf arr n) ∈ all) (ea : arr = (rs ++ [Value.ref P]).toArray) (mp : (P, listOf (ws ++ List.replicate (7 - (ws.length : Int)).toNat Value.none).toArray k) ∈ all) : Bears all (.ref W) (calD c ml) := by
  subst ea
  rw [lfin_cal h h']
  have hl := car_len C
  unfold lfin
  rw [if_neg (by omega)]
  refine bears_list m (B.snoc (bears_flat mp ?_))
  rw [show (7 - (ws.length : Int)).toNat = 7 - (lrun c ml).2.length by omega]
  exact car_app C (car_rep _)
section
variable {prog : Program} {w : World} {A : Around} {E : Value → Shared → Prop} {s : Shared} {h₀ : Heap} {L l : Addr} {m : Str → Option Value} {news : List (Addr × Obj)} {Q : Value → Shared → Prop} {n : Nat} {vs : List Value} {v : Value}
theorem r_len0 (N : News h₀ L s.heap news) (hm : (l, listOf vs.toArray n) ∈ news) (hz : vs.length < 256) (h : ∀ t tk, Q (.int (vs.length : Int) t) { s with toks := tk }) : wpAny (model prog w) A (call (.builtin "len") [.ref l]) Q E s := by
  have hl : s.heap.IsList l vs.toArray := ⟨_, (N _ hm).1, rfl, _, rfl⟩
  refine Calls.call_len_list hl (by rw [List.size_toArray]; omega) ?_
  rw [List.size_toArray]
  exact h _ _
theorem r_lenS (N : News h₀ L s.heap news) (hm : (l, listOf (vs ++ [v]).toArray n) ∈ news) (hz : vs.length < 255) (h : ∀ t tk, Q (.int ((vs.length : Int) + 1) t) { s with toks := tk }) : wpAny (model prog w) A (call (.builtin "len") [.ref l]) Q E s :=
  r_len0 N hm (by simp; omega) fun t tk => by
    rw [show (((vs ++ [v]).length : Nat) : Int) = (vs.length : Int) + 1 by simp]
    exact h t tk
theorem ite_beq {a b : Int} {T F : Prop} (t : a = b → T) (f : a ≠ b → F) : if (a == b) = true then T else F := by
  by_cases h : a = b
  · rw [if_pos (by simp [h])]; exact t h
  · rw [if_neg (by simp [h])]; exact f h
end
section
variable {prog : Program} {w : World} {A : Around} {E : Value → Shared → Prop} {s : Shared} {env : Env} {h₀ : Heap} {x : Str} {body : List Stmt} {Q : Flow → Shared → Prop}
def LfPost (h₀ : Heap) (L : Addr) (m₀ : Str → Option Value) (x wk : Str) (W : Addr) (ws rs : List Value) (led own : List (Addr × Obj)) (v : Value) (s₁ : Shared) (f : Flow) (s₂ : Shared) : Prop :=
  f = .next ∧ ∃ h' tk m' k' n1 n2, s₂ = { s₁ with heap := h', toks := tk } ∧ Fr h₀ L h' m' ∧ m' wk = some (.ref k') ∧ (∀ z, z ≠ x → z ≠ wk → m' z = m₀ z) ∧ (@Ne Nat k' W) ∧ (∀ p ∈ own, p.1 ≠ k') ∧
    ((ws.length + 1 ≠ 7 ∧ News h₀ L h' ((k', listOf (ws ++ [v]).toArray n1) :: (W, listOf rs.toArray n2) :: (led ++ own))) ∨
     (ws.length + 1 = 7 ∧ ∃ kr nr, (@Ne Nat kr W) ∧ (∀ p ∈ own, p.1 ≠ kr) ∧ News h₀ L h' ((k', listOf [].toArray n1) :: (W, listOf (rs ++ [Value.ref kr]).toArray n2) :: (kr, listOf (ws ++ [v]).toArray nr) :: (led ++ own))))
theorem LfPost.keep {L : Addr} {m₀ m' : Str → Option Value} {wk : Str} {W k' : Addr} {ws rs : List Value} {led own all : List (Addr × Obj)} {v : Value} {s₁ : Shared} {h' : Heap} {tk n1 n2 : Nat} (F : Fr h₀ L h' m') (N : News h₀ L h' all)
    (hl : ws.length + 1 ≠ 7) (hw : m' wk = some (.ref k')) (hz : ∀ z, z ≠ x → z ≠ wk → m' z = m₀ z) (hk : @Ne Nat k' W) (ho : ∀ p ∈ own, p.1 ≠ k') (m1 : (k', listOf (ws ++ [v]).toArray n1) ∈ all) (m2 : (W, listOf rs.toArray n2) ∈ all) (m3 : ∀ p ∈ led ++ own, p ∈ all) :
    LfPost h₀ L m₀ x wk W ws rs led own v s₁ .next { s₁ with heap := h', toks := tk } := by
  refine ⟨rfl, h', tk, m', k', n1, n2, rfl, F, hw, hz, hk, ho, .inl ⟨hl, fun p hp => ?_⟩⟩
  rcases List.mem_cons.mp hp with rfl | hp
  · exact N _ m1
  rcases List.mem_cons.mp hp with rfl | hp
  · exact N _ m2
  exact N p (m3 p hp)
theorem LfPost.full {L : Addr} {m₀ m' : Str → Option Value} {wk : Str} {W k' kr : Addr} {ws rs : List Value} {led own all : List (Addr × Obj)} {v : Value} {s₁ : Shared} {h' : Heap} {tk n1 n2 nr : Nat} {arr : Array Value} (F : Fr h₀ L h' m') (N : News h₀ L h' all)
    (hl : ws.length + 1 = 7) (hw : m' wk = some (.ref k')) (hz : ∀ z, z ≠ x → z ≠ wk → m' z = m₀ z) (hk : @Ne Nat k' W) (ho : ∀ p ∈ own, p.1 ≠ k') (m1 : (k', listOf #[] n1) ∈ all) (m2 : (W, listOf arr n2) ∈ all) (ea : arr = (rs ++ [Value.ref kr]).toArray) (m3 : ∀ p ∈ led ++ own, p ∈ all)
    (hk2 : @Ne Nat kr W) (ho2 : ∀ p ∈ own, p.1 ≠ kr) (m4 : (kr, listOf (ws ++ [v]).toArray nr) ∈ all) :
    LfPost h₀ L m₀ x wk W ws rs led own v s₁ .next { s₁ with heap := h', toks := tk } := by
  subst ea
  refine ⟨rfl, h', tk, m', k', n1, n2, rfl, F, hw, hz, hk, ho, .inr ⟨hl, kr, nr, hk2, ho2, fun p hp => ?_⟩⟩
  rcases List.mem_cons.mp hp with rfl | hp
  · exact N _ m1
  rcases List.mem_cons.mp hp with rfl | hp
  · exact N _ m2
  rcases List.mem_cons.mp hp with rfl | hp
  · exact N _ m4
  exact N p (m3 p hp)
theorem map_wk {m₁ m₀ : Str → Option Value} {wk : Str} {k : Addr} (v : Str → Option Value) (ha : m₁ wk = some (.ref k)) (hm : ∀ z, z ≠ x → z ≠ wk → m₁ z = m₀ z) : (fun z => if z = x then v z else m₁ z) = fun z => if z = x then v z else if z = wk then some (.ref k) else m₀ z := by
  funext z
  by_cases h1 : z = x
  · simp only [if_pos h1]
  · simp only [if_neg h1]
    by_cases h2 : z = wk
    · subst h2; simp [ha]
    · simp only [if_neg h2]; exact hm z h1 h2
def MM (_ : Nat) : Prop := True
theorem iter_leaf3 {r : Addr} {b₀ : Int} {t₀ u₀ v₀ : Tok} {m₀ : Str → Option Value} {base news : List (Addr × Obj)} {wk : Str} {W K : Addr} {n1 n2 c ml : Nat} {ws₀ : List Value} (_ : MM ml) (hc7 : c < 7)
    (hh : A.handled = none) (hr : IsRange s.heap r 1 b₀ 1 t₀ u₀ v₀) (hsmall : Builtin.Range.small 1 b₀ 1 = true) (hn0 : Builtin.Range.rangeSize 1 b₀ 1 = (((b₀ - 1).toNat : Nat) : Int)) (hml : (b₀ - 1).toNat = ml) (F : Fr h₀ env.locals s.heap m₀) (N : News h₀ env.locals s.heap news)
    (wn : Str) (_ : m₀ wn = some (.ref W)) (hw : m₀ wk = some (.ref K)) (hmK : (K, listOf ws₀.toArray n1) ∈ news) (hmW : (W, listOf #[] n2) ∈ news) (hKW : @Ne Nat K W) (hoff : ∀ p ∈ base, p.1 ≠ W) (hb : ∀ p ∈ base, p ∈ news) (hc : CarriedAll ws₀ (List.replicate c PyData.none))
    (turn : ∀ (i : Nat) k ws n1 rs n2 led own t h tk, ws.length < 7 → rs.length ≤ i → i < ml → (@Ne Nat k W) → (∀ p ∈ led ++ own, p.1 ≠ W) → Fr h₀ env.locals h (fun z => if z = x then some (.int (1 + (i : Int)) t) else if z = wk then some (.ref k) else m₀ z) → News h₀ env.locals h ((k, listOf (List.toArray ws) n1) :: (W, listOf (List.toArray rs) n2) :: (led ++ own)) →
      wpAny (model prog w) A (execs body env) (LfPost h₀ env.locals m₀ x wk W ws rs led own (.int (1 + (i : Int)) t) { s with heap := h, toks := tk }) E { s with heap := h, toks := tk })
    (done : ∀ k ws n1 rs n2 led (u : Str → Option Value) h tk, ws.length < 7 → rs.length ≤ ml → (@Ne Nat k W) → (∀ p ∈ led, p.1 ≠ W) → (∀ p ∈ base, p ∈ led) → CarriedAll ws (lrun c ml).2 → BearsAll led rs (lrun c ml).1 → Fr h₀ env.locals h (fun z => if z = x then u z else if z = wk then some (.ref k) else m₀ z) → News h₀ env.locals h ((k, listOf (List.toArray ws) n1) :: (W, listOf (List.toArray rs) n2) :: led) → Q .next { s with heap := h, toks := tk }) :
    wpAny (model prog w) A (pyIter (.ref r)) (fun it s₂ => LoopAtV prog w A h₀ env x body Q E it s₂) E s := by
  rw [hml] at hn0
  have hn := hn0
  refine wpAny_pyIter_range hr hsmall ?_
  have Wk : Walks prog w A s.heap.objs.size [s.heap.objs.size] [s.heap.objs.size] ml (fun i v => i < ml ∧ ∃ t, v = .int (1 + i * 1) t)
      (fun i h => IsRangeIter h s.heap.objs.size (1 + (i : Nat) * 1) (((ml : Nat) : Int) - (i : Nat)) 1) := (Walks.range hh _ 1 1 ml).bound
  let J : Nat → (Str → Option Value) → List (Addr × Obj) → Prop := fun i m nx => ∃ k ws n1 rs n2 led, nx = (k, listOf (List.toArray ws) n1) :: (W, listOf (List.toArray rs) n2) :: led ∧ m wk = some (.ref k) ∧ (∀ z, z ≠ x → z ≠ wk → m z = m₀ z) ∧ (@Ne Nat k W) ∧ (∀ p ∈ led, p.1 ≠ W) ∧ (∀ p ∈ base, p ∈ led) ∧ rs.length ≤ i ∧ CarriedAll ws (lrun c i).2 ∧ BearsAll led rs (lrun c i).1
  have sub : ∀ p ∈ (K, listOf ws₀.toArray n1) :: (W, listOf #[] n2) :: base, p ∈ news := by
    intro p hp
    rcases List.mem_cons.mp hp with rfl | hp
    · exact hmK
    rcases List.mem_cons.mp hp with rfl | hp
    · exact hmW
    exact hb p hp
  have WI : @Ne Nat W s.heap.objs.size := Nat.ne_of_lt (Heap.lt_size (N _ hmW).1)
  refine ⟨_, _, _, ml, _, _, m₀, (K, listOf ws₀.toArray n1) :: (W, listOf #[] n2) :: base, J, rfl, Wk, ?_, ?_, ?_, (by show IsRangeIter _ _ _ _ _; rw [hn]; simpa using Heap.get?_push_size _ rfl), F.push _, (fun p hp => ⟨Heap.get?_push_of_some _ (N p (sub p hp)).1, (N p (sub p hp)).2⟩), ⟨K, ws₀, n1, [], n2, base, rfl, hw, fun _ _ _ => rfl, hKW, hoff, fun _ h => h, Nat.le_refl _, hc, .nil⟩, ?_, ?_⟩
  · intro hm
    exact absurd F.ns.lt ((List.mem_singleton.mp hm) ▸ Nat.lt_irrefl _)
  · intro b hb
    rw [List.mem_singleton.mp hb]
    exact next_is_new F
  · intro p hp hI
    exact absurd (Heap.lt_size (N p (sub p hp)).1) ((List.mem_singleton.mp hI) ▸ Nat.lt_irrefl _)
  · rintro i v m₁ nx s₁ own ⟨hh', tk', rfl⟩ hin ⟨_, t, rfl⟩ ⟨k, ws, n1', rs, n2', led, rfl, hwk, hz, hkW, hled, hbase, hrl, hcar, hbear⟩ hoffI hown _ hownI hst F₁ N₁
    have hoI : ∃ o, (s.heap.objs.size, o) ∈ own := ⟨_, hownI _ (.head _) (next_is_new F) _ (show hh'.get? _ = some _ from hst)⟩
    obtain ⟨oI, hoI⟩ := hoI
    have hownW : ∀ p ∈ own, p.1 ≠ W := fun p hp => by rw [List.mem_singleton.mp (hown p hp)]; exact WI.symm
    rw [map_wk _ hwk hz, Int.mul_one] at F₁
    have hlen := car_len hcar
    have h7 := lrun_len hc7 i
    refine wpAny_mono (turn i k ws n1' rs n2' led own t hh' tk' (by omega) hrl hin hkW (fun p hp => (List.mem_append.mp hp).elim (hled p) (hownW p)) F₁ (fun p hp => N₁ p ?_)) (fun f s₂ q => ?_) fun _ _ e => e
    · rcases List.mem_cons.mp hp with rfl | hp
      · exact List.mem_append.mpr (.inr (.head _))
      rcases List.mem_cons.mp hp with rfl | hp
      · exact List.mem_append.mpr (.inr (.tail _ (.head _)))
      exact (List.mem_append.mp hp).elim (fun h => List.mem_append.mpr (.inr (.tail _ (.tail _ h)))) fun h => List.mem_append.mpr (.inl h)
    · obtain ⟨rfl, h', tk, m', k', na, nb, rfl, F', hw', hz', hkW', ho', hor⟩ := q
      have hI' : ∀ {q : Addr}, (∀ p ∈ own, p.1 ≠ q) → q ∉ [s.heap.objs.size] := fun h e => h _ hoI (List.mem_singleton.mp e).symm
      have hledI : ∀ p ∈ led, p.1 ∉ [s.heap.objs.size] := fun p hp => hoffI p (.tail _ (.tail _ hp))
      have hWI : W ∉ [s.heap.objs.size] := fun e => WI (List.mem_singleton.mp e)
      have hs : lrun c (i + 1) = lstep i (lrun c i) := rfl
      rcases hor with ⟨h6, N'⟩ | ⟨h6, kr, nr, hkr, hokr, N'⟩
      · refine .next ⟨rfl, h', tk, m', (k', listOf (ws ++ [Value.int (1 + (i : Int)) t]).toArray na) :: (W, listOf rs.toArray nb) :: led, rfl, F', ?_, ?_, k', _, na, rs, nb, led, rfl, hw', hz', hkW', hled, hbase, by omega, ?_, ?_⟩
        · intro p hp
          refine N' p ?_
          rcases List.mem_append.mp hp with hp | hp
          · exact .tail _ (.tail _ (List.mem_append.mpr (.inr hp)))
          rcases List.mem_cons.mp hp with rfl | hp
          · exact .head _
          rcases List.mem_cons.mp hp with rfl | hp
          · exact .tail _ (.head _)
          exact .tail _ (.tail _ (List.mem_append.mpr (.inl hp)))
        · intro p hp
          rcases List.mem_cons.mp hp with rfl | hp
          · exact hI' ho'
          rcases List.mem_cons.mp hp with rfl | hp
          · exact hWI
          exact hledI p hp
        · rw [hs]; unfold lstep; rw [if_neg (by omega)]
          exact car_app hcar (.cons (.int _ _) .nil)
        · rw [hs]; unfold lstep; rw [if_neg (by omega)]
          exact hbear
      · refine .next ⟨rfl, h', tk, m', (k', listOf (List.toArray []) na) :: (W, listOf (rs ++ [Value.ref kr]).toArray nb) :: (kr, listOf (ws ++ [Value.int (1 + (i : Int)) t]).toArray nr) :: led, rfl, F', ?_, ?_, k', [], na, _, nb, (kr, listOf (ws ++ [Value.int (1 + (i : Int)) t]).toArray nr) :: led, rfl, hw', hz', hkW', ?_, fun p hp => .tail _ (hbase p hp), by simp; omega, ?_, ?_⟩
        · intro p hp
          refine N' p ?_
          rcases List.mem_append.mp hp with hp | hp
          · exact .tail _ (.tail _ (.tail _ (List.mem_append.mpr (.inr hp))))
          rcases List.mem_cons.mp hp with rfl | hp
          · exact .head _
          rcases List.mem_cons.mp hp with rfl | hp
          · exact .tail _ (.head _)
          rcases List.mem_cons.mp hp with rfl | hp
          · exact .tail _ (.tail _ (.head _))
          exact .tail _ (.tail _ (.tail _ (List.mem_append.mpr (.inl hp))))
        · intro p hp
          rcases List.mem_cons.mp hp with rfl | hp
          · exact hI' ho'
          rcases List.mem_cons.mp hp with rfl | hp
          · exact hWI
          rcases List.mem_cons.mp hp with rfl | hp
          · exact hI' hokr
          exact hledI p hp
        · intro p hp
          rcases List.mem_cons.mp hp with rfl | hp
          · exact hkr
          exact hled p hp
        · rw [hs]; unfold lstep; rw [if_pos (by omega)]
          exact .nil
        · rw [hs]; unfold lstep; rw [if_pos (by omega)]
          exact (hbear.mono fun p hp => .tail _ hp).snoc (bears_flat (.head _) (car_app hcar (.cons (.int _ _) .nil)))
  · rintro h' tk m' nx F' N' _ ⟨k, ws, n1', rs, n2', led, rfl, hwk, hz, hkW, hled, hbase, hrl, hcar, hbear⟩
    have hlen := car_len hcar
    have h7 := lrun_len hc7 ml
    refine done k ws n1' rs n2' led m' h' tk (by omega) hrl hkW hled hbase hcar hbear ?_ N'
    rw [← map_wk _ hwk hz]
    have e : (fun z => if z = x then m' z else m' z) = m' := by funext z; split <;> rfl
    rw [e]; exact F'
end
end Mine
end
section
set_option maxRecDepth 100000
namespace Mine
open PySem PySem.W PySem.Calls PyProof.Rows PyProof.V PySem.Spec PyProof.Rows.LCg
structure MonF (y o k l f N : Int) : Prop where
  o1 : -951 ≤ o ∧ o < 7000000000
  k1 : 1 ≤ k ∧ k ≤ 13
  le : l = mlen o k
  l2 : l = 29 ∨ l = 30
  d1 : f ≤ N ∧ N < f + l
  dd : dn o k (N - f + 1) = N - 1
  fb : f = dn o k 1 + 1
  nb : 0 < N ∧ N < 2670000500000
  fj : FJ o k (N - f + 1) (N - 1)
  fl : FlAt (G (512 * (2 * N - 1))) (N - 1)
theorem monF {y o k l f N : Int} (h1 : -951 ≤ y) (h2 : y < 1000000) (R : RowF y o k l f) (d1 : f ≤ N) (d2 : N < f + l) : MonF y o k l f N := by
  obtain ⟨ow, k1, k2, le, l2, dd⟩ := R
  have hm := ym_le o
  have hd : dn o k (N - f + 1) = N - 1 := by
    have a : dn o k (N - f + 1) = ny o + off o k + (N - f + 1) := rfl
    have b : dn o k 1 = ny o + off o k + 1 := rfl
    omega
  have fj : FJ o k (N - f + 1) (N - 1) := ⟨by omega, by omega, k1, k2, by omega, by omega, hd.symm⟩
  have bd := fj.bnd
  exact ⟨⟨by omega, by omega⟩, ⟨k1, by omega⟩, le, l2, ⟨d1, d2⟩, hd, dd, ⟨by omega, by omega⟩, fj, FlAt.G ⟨by omega, by omega⟩ (by omega)⟩
structure YearF (y : Int) : Prop where
  n : 274 ≤ ny y ∧ ny y < 2670000400000
  s : yl y = 353 ∨ yl y = 354 ∨ yl y = 355 ∨ yl y = 383 ∨ yl y = 384 ∨ yl y = 385
theorem yearF {y : Int} (h1 : -951 ≤ y) (h2 : y < 7100000000) : YearF y := ⟨by have := ny_pos h1; have := ny_bnd (show -10000 < y by omega) (show y < 7300000000 by omega); omega, yl_six y⟩
section
variable {M : Model} {A : Around} {E : Value → Shared → Prop} {s : Shared} {env : Env} {Q : Value → Shared → Prop} {e : Expr} {y : Int}
/-- an expression that answers some int and writes nothing -/
def IntAt (P : Int → Prop) (s : Shared) (v : Value) (s' : Shared) : Prop := ∃ n t tk, v = .int n t ∧ P n ∧ s' = { s with toks := tk }
theorem int_any (P : Int → Prop) (h : wpAny M A (eval e env) (IntAt P s) E s) (q : ∀ n t tk, P n → Q (.int n t) { s with toks := tk }) : wpAny M A (eval e env) Q E s :=
  wpAny_mono h (fun v s' ⟨n, t, tk, hv, hp, hs⟩ => by subst hv; subst hs; exact q n t tk hp) fun _ _ e => e
theorem int_year (h : wpAny M A (eval e env) (IntAt (fun n => -951 ≤ n ∧ n ≤ 999048) s) E s) (q : ∀ n t tk, YY n → -951 ≤ n → n ≤ 999048 → Q (.int n t) { s with toks := tk }) : wpAny M A (eval e env) Q E s := int_any _ h fun n t tk p => q n t tk trivial p.1 p.2
theorem int_days (_ : YY y) (h : wpAny M A (eval e env) (IntAt (fun n => 0 ≤ n ∧ n ≤ yl y) s) E s) (q : ∀ n t tk, 0 ≤ n → n ≤ yl y → Q (.int n t) { s with toks := tk }) : wpAny M A (eval e env) Q E s := int_any _ h fun n t tk p => q n t tk p.1 p.2
theorem int_past (h : wpAny M A (eval e env) (IntAt (fun n => 0 ≤ n ∧ n < 100) s) E s) (q : ∀ n t tk, 0 ≤ n → n < 100 → Q (.int n t) { s with toks := tk }) : wpAny M A (eval e env) Q E s := int_any _ h fun n t tk p => q n t tk p.1 p.2
end
end Mine
end
set_option maxHeartbeats 8000000
namespace Mine
open PySem PySem.W PySem.Calls PyProof.Rows
abbrev Con (w : World) (mean : ExcName → Option Value) (mg mb : Str → Option Value) (f : Addr) (d : Nat) (vs : List Value) (R : Tok → Value) : Prop :=
  ∀ (dp un : Nat) (gd : Option (List Code)) (cn : Str) (cs : Scope) (a : Addr) (ccd : Value) (cl : List (Str × Addr)) (outer : List Env) (A₀ : Around) (base h₀ : Heap) (L : Addr) (m : Str → Option Value) (news : List (Addr × Obj)) (s : Shared) (Q E : Value → Shared → Prop),
    Below A₀ base outer h₀ → Fr h₀ L s.heap m → (Mine.hd.heap_39 w.params).In h₀ → News h₀ L s.heap news → Top Mine.hd.view_39 (looseW Mine.hd.view_39 []) mean mg mb h₀ → cs.kind = .function →
    dp + d < recursionLimit → un + 10 * d < cLine → CbRet h₀ L m news s Q R →
      wpAny (model PySem.Challenge.rw_ad5010_03.row.prog w) (ktrTop dp un gd cn cs L a ccd cl outer) (call (.ref f) vs) Q E s
theorem Con.app {w : World} {mean : ExcName → Option Value} {mg mb : Str → Option Value} {f : Addr} {d : Nat} {vs : List Value} {R : Tok → Value} (C : Con w mean mg mb f d vs R)
    {dp un : Nat} {gd : Option (List Code)} {cn : Str} {cs : Scope} {a : Addr} {ccd : Value} {cl : List (Str × Addr)} {outer : List Env} {A₀ : Around} {base h₀ : Heap} {L : Addr} {m : Str → Option Value} {news : List (Addr × Obj)} {s : Shared} {Q E : Value → Shared → Prop}
    (k1 : Below A₀ base outer h₀) (k2 : Fr h₀ L s.heap m) (k3 : (Mine.hd.heap_39 w.params).In h₀) (k4 : News h₀ L s.heap news) (k5 : Top Mine.hd.view_39 (looseW Mine.hd.view_39 []) mean mg mb h₀) (kK : cs.kind = .function)
    (kd : dp + d < recursionLimit) (ku : un + 10 * d < cLine) (kR : CbRet h₀ L m news s Q R) :
    wpAny (model PySem.Challenge.rw_ad5010_03.row.prog w) (ktrTop dp un gd cn cs L a ccd cl outer) (call (.ref f) vs) Q E s :=
  C _ _ _ _ _ _ _ _ _ _ _ _ _ _ _ _ _ _ k1 k2 k3 k4 k5 kK kd ku kR
abbrev RetP := Heap → Addr → (Str → Option Value) → List (Addr × Obj) → Shared → (Value → Shared → Prop) → Prop
abbrev ConR (w : World) (mean : ExcName → Option Value) (mg mb : Str → Option Value) (f : Addr) (d : Nat) (vs : List Value) (R : RetP) : Prop :=
  ∀ (dp un : Nat) (gd : Option (List Code)) (cn : Str) (cs : Scope) (a : Addr) (ccd : Value) (cl : List (Str × Addr)) (outer : List Env) (A₀ : Around) (base h₀ : Heap) (L : Addr) (m : Str → Option Value) (news : List (Addr × Obj)) (s : Shared) (Q E : Value → Shared → Prop),
    Below A₀ base outer h₀ → Fr h₀ L s.heap m → (Mine.hd.heap_39 w.params).In h₀ → News h₀ L s.heap news → Top Mine.hd.view_39 (looseW Mine.hd.view_39 []) mean mg mb h₀ → cs.kind = .function →
    dp + d < recursionLimit → un + 10 * d < cLine → R h₀ L m news s Q →
      wpAny (model PySem.Challenge.rw_ad5010_03.row.prog w) (ktrTop dp un gd cn cs L a ccd cl outer) (call (.ref f) vs) Q E s
theorem ConR.app {w : World} {mean : ExcName → Option Value} {mg mb : Str → Option Value} {f : Addr} {d : Nat} {vs : List Value} {R : RetP} (C : ConR w mean mg mb f d vs R)
    {dp un : Nat} {gd : Option (List Code)} {cn : Str} {cs : Scope} {a : Addr} {ccd : Value} {cl : List (Str × Addr)} {outer : List Env} {A₀ : Around} {base h₀ : Heap} {L : Addr} {m : Str → Option Value} {news : List (Addr × Obj)} {s : Shared} {Q E : Value → Shared → Prop}
    (k1 : Below A₀ base outer h₀) (k2 : Fr h₀ L s.heap m) (k3 : (Mine.hd.heap_39 w.params).In h₀) (k4 : News h₀ L s.heap news) (k5 : Top Mine.hd.view_39 (looseW Mine.hd.view_39 []) mean mg mb h₀) (kK : cs.kind = .function)
    (kd : dp + d < recursionLimit) (ku : un + 10 * d < cLine) (kR : R h₀ L m news s Q) :
    wpAny (model PySem.Challenge.rw_ad5010_03.row.prog w) (ktrTop dp un gd cn cs L a ccd cl outer) (call (.ref f) vs) Q E s :=
  C _ _ _ _ _ _ _ _ _ _ _ _ _ _ _ _ _ _ k1 k2 k3 k4 k5 kK kd ku kR
theorem Con.facts {w : World} {mean : ExcName → Option Value} {mg mb : Str → Option Value} {f : Addr} {d : Nat} {vs : List Value} {R : Tok → Value} {P : Prop} (C : Con w mean mg mb f d vs R) (p : P) :
    ConR w mean mg mb f d vs (fun h₀ L m news s Q => ∀ (t : Tok) (h' : Heap) (tk' : Nat), P → Fr h₀ L h' m → News h₀ L h' news → Q (R t) { s with heap := h', toks := tk' }) :=
  fun _ _ _ _ _ _ _ _ _ _ _ _ _ _ _ _ _ _ k1 k2 k3 k4 k5 k6 k7 k8 r => C _ _ _ _ _ _ _ _ _ _ _ _ _ _ _ _ _ _ k1 k2 k3 k4 k5 k6 k7 k8 fun t h' tk' => r t h' tk' p
theorem cb_retF {h₀ h' : Heap} {L : Addr} {m : Str → Option Value} {news : List (Addr × Obj)} {s : Shared} {Q : Value → Shared → Prop} {t : Tok} {tk' : Nat} {x y : UInt64} (hret : ∀ (t : Tok) (h' : Heap) (tk' : Nat), Fr h₀ L h' m → News h₀ L h' news → Q (.float x t) { s with heap := h', toks := tk' }) (e : y = x) (F : Fr h₀ L h' m) (N : News h₀ L h' news) : Q (.float y t) { s with heap := h', toks := tk' } := by
  subst e
  exact hret t h' tk' F N
section
variable {w : World} {mean : ExcName → Option Value} {mg mb : Str → Option Value}
local macro_rules | `(tactic| walk_at "binaryOp Div int int") => `(tactic| first | ((with_reducible refine r_div1024 ?ha ?_); (case ha => (unfold Ok; omega)); (try dsimp only)) | ((with_reducible refine r_div2 ?ha ?_); (case ha => (unfold Ok; omega)); (try dsimp only)) | ((with_reducible refine r_div ?ha ?hb ?hc ?_); (case ha => (unfold Ok; omega)); (case hb => decide); (case hc => decide); (try dsimp only)))
local macro_rules | `(tactic| walk_at "binaryOp Mod int int") => `(tactic| ((with_reducible refine r_mod ?ha ?_); (case ha => decide); (try dsimp only)))
local macro_rules | `(tactic| walk_at "call builtin:math.floor") => `(tactic| first | ((with_reducible refine r_floorQ ?ha ?hb ?hc ?_); (case ha => (unfold Ok; omega)); (case hb => decide); (case hc => decide); (try dsimp only)) | ((with_reducible refine r_floorG ?ha ?_); (case ha => (unfold Ok; omega)); (try dsimp only)))
local macro_rules | `(tactic| walk_at "call builtin:math.trunc") => `(tactic| ((with_reducible refine r_truncG ?ha ?_); (case ha => (unfold Ok; omega)); intro kI hI1 hI2; (try dsimp only)))
local macro_rules | `(tactic| walk_at "call type:int") => `(tactic| ((with_reducible refine r_intG ?ha ?_); (case ha => (unfold Ok; omega)); intro kI hI1 hI2; (try dsimp only)))
local macro_rules | `(tactic| walk_at "binaryOp Add float float") => `(tactic| ((with_reducible refine' r_add_ff ?hx ?hy ?ha ?hb ?hc ?_); (case hx => first | with_reducible exact c_half | with_reducible exact c_epoch | with_reducible rfl); (case hy => first | with_reducible exact c_half | with_reducible exact c_epoch | with_reducible rfl); (case ha => (unfold Ok; omega)); (case hb => (unfold Ok; omega)); (case hc => (unfold Ok; omega)); (try dsimp only)))
local macro_rules | `(tactic| walk_at "binaryOp Sub float float") => `(tactic| ((with_reducible refine' r_sub_ff ?hx ?hy ?ha ?hb ?hc ?_); (case hx => first | with_reducible exact c_half | with_reducible exact c_epoch | with_reducible rfl); (case hy => first | with_reducible exact c_half | with_reducible exact c_epoch | with_reducible rfl); (case ha => (unfold Ok; omega)); (case hb => (unfold Ok; omega)); (case hc => (unfold Ok; omega)); (try dsimp only)))
local macro_rules | `(tactic| walk_at "binaryOp Add float int") => `(tactic| ((with_reducible refine' r_add_fi ?hx ?ha ?hb ?hc ?_); (case hx => first | with_reducible exact c_half | with_reducible exact c_epoch | with_reducible rfl); (case ha => (unfold Ok; omega)); (case hb => (unfold Ok; omega)); (case hc => (unfold Ok; omega)); (try dsimp only)))
local macro_rules | `(tactic| walk_at "inplaceOp Add float int") => `(tactic| ((with_reducible refine' r_iadd_fi ?hx ?ha ?hb ?hc ?_); (case hx => first | with_reducible exact c_half | with_reducible exact c_epoch | with_reducible rfl); (case ha => (unfold Ok; omega)); (case hb => (unfold Ok; omega)); (case hc => (unfold Ok; omega)); (try dsimp only)))
local macro_rules | `(tactic| walk_at "binaryOp Add int float") => `(tactic| ((with_reducible refine' r_add_if ?hx ?ha ?hb ?hc ?_); (case hx => first | with_reducible exact c_half | with_reducible exact c_epoch | with_reducible rfl); (case ha => (unfold Ok; omega)); (case hb => (unfold Ok; omega)); (case hc => (unfold Ok; omega)); (try dsimp only)))
local macro_rules | `(tactic| walk_at "binaryOp Sub int float") => `(tactic| ((with_reducible refine' r_sub_if ?hx ?ha ?hb ?hc ?_); (case hx => first | with_reducible exact c_half | with_reducible exact c_epoch | with_reducible rfl); (case ha => (unfold Ok; omega)); (case hb => (unfold Ok; omega)); (case hc => (unfold Ok; omega)); (try dsimp only)))
local macro_rules | `(tactic| walk_at "compareOp GtE float float") => `(tactic| ((with_reducible refine' r_ge_ff ?hx ?hy ?ha ?hb ?_); (case hx => with_reducible rfl); (case hy => with_reducible rfl); (case ha => (unfold Ok; omega)); (case hb => (unfold Ok; omega))))
local macro_rules | `(tactic| walk_at "compareOp Gt float float") => `(tactic| ((with_reducible refine' r_gt_ff ?hx ?hy ?ha ?hb ?_); (case hx => with_reducible rfl); (case hy => with_reducible rfl); (case ha => (unfold Ok; omega)); (case hb => (unfold Ok; omega))))
local macro_rules | `(tactic| walk_at "compareOp Lt float float") => `(tactic| ((with_reducible refine' r_lt_ff ?hx ?hy ?ha ?hb ?_); (case hx => with_reducible rfl); (case hy => with_reducible rfl); (case ha => (unfold Ok; omega)); (case hb => (unfold Ok; omega))))
local macro_rules | `(tactic| walk_at "compareOp NotEq float float") => `(tactic| ((with_reducible refine' r_ne_ff ?hx ?hy ?ha ?hb ?_); (case hx => with_reducible rfl); (case hy => with_reducible rfl); (case ha => (unfold Ok; omega)); (case hb => (unfold Ok; omega))))
local macro_rules | `(tactic| walk_at "compareOp NotEq float int") => `(tactic| ((with_reducible refine' r_ne_fi ?hx ?ha ?_); (case hx => with_reducible rfl); (case ha => (unfold Ok; omega))))
local macro_rules | `(tactic| walk_at "compareOp Eq float int") => `(tactic| ((with_reducible refine' r_eq_fi ?hx ?ha ?_); (case hx => with_reducible rfl); (case ha => (unfold Ok; omega))))
local macro_rules | `(tactic| walk_at "compareOp Gt float int") => `(tactic| ((with_reducible refine' r_gt_fi ?hx ?ha ?_); (case hx => with_reducible rfl); (case ha => (unfold Ok; omega))))
local macro_rules | `(tactic| walk_at "compareOp NotEq int float") => `(tactic| ((with_reducible refine' r_ne_if ?hx ?ha ?_); (case hx => with_reducible rfl); (case ha => (unfold Ok; omega))))
local macro_rules | `(tactic| walk_at "binaryOp Mod float int") => `(tactic| ((with_reducible refine' r_mod10 ?hx ?ha ?hv ?_); (case hx => with_reducible rfl); (case ha => with_reducible rfl); (case hv => exact yl_six _); (try dsimp only)))
local macro_rules | `(tactic| walk_at "call builtin:abs") => `(tactic| ((with_reducible refine r_abs ?_); intro kA uA tkA hA1 hA2; (try dsimp only)))
section
theorem c_leap (y : Int) (t : Tok) : Con w mean mg mb 61 2 [.int y t] (fun _ => .bool (leapB y)) := by
  unfold Con
  k_fill
  intro dp un gd cn cs a ccd cl outer A₀ base h₀ L m news s Q E B F X N T hk hd hu hret
  w_on
  w_strict (
    refine wpAny_call ?_
    k_dflt cell_enter
    k_steps
    all_goals exact cb_retB hret rfl (by assumption) (by assumption))
end
local macro_rules | `(tactic| walk_at "call ref") => `(tactic| (k_here; (with_reducible show wpAny _ _ (call (Value.ref 61) [Value.int _ _]) _ _ _); k_dflt (refine' Con.app (c_leap _ _) ?k1 ?k2 ?k3 ?k4 ?k5 ?kK ?kd ?ku ?_; (case k1 => k_asm); (case k2 => k_asm); (case k3 => k_asm); (case k4 => k_asm); (case k5 => k_asm); (case kK => first | exact rfl | assumption); (case kd => ktr_room); (case ku => ktr_units); intro t9 h9 tk9 F9 N9; (try dsimp only); (try k_fold))))
section
theorem c_ym (y : Int) (t : Tok) : Con w mean mg mb 68 3 [.int y t] (fun t => .int (ym y) t) := by
  unfold Con
  k_fill
  intro dp un gd cn cs a ccd cl outer A₀ base h₀ L m news s Q E B F X N T hk hd hu hret
  w_on
  w_strict (
    refine wpAny_call ?_
    k_dflt cell_enter
    k_steps
    all_goals refine cb_retI hret ?_ (by assumption) (by assumption)
    all_goals (unfold ym; simp_all))
end
local macro_rules | `(tactic| walk_at "call ref") => `(tactic| (k_here; (with_reducible show wpAny _ _ (call (Value.ref 68) [Value.int _ _]) _ _ _); k_dflt (refine' Con.app (c_ym _ _) ?k1 ?k2 ?k3 ?k4 ?k5 ?kK ?kd ?ku ?_; (case k1 => k_asm); (case k2 => k_asm); (case k3 => k_asm); (case k4 => k_asm); (case k5 => k_asm); (case kK => first | exact rfl | assumption); (case kd => ktr_room); (case ku => ktr_units); intro t9 h9 tk9 F9 N9; (try dsimp only); (try k_fold))))
section
theorem c_d1 {y : Int} (h1 : -10000 < y) (h2 : y < 7300000000) (t : Tok) : Con w mean mg mb 75 2 [.int y t] (fun t => .int (d1 y) t) := by
  unfold Con
  k_fill
  intro dp un gd cn cs a ccd cl outer A₀ base h₀ L m news s Q E B F X N T hk hd hu hret
  w_on
  w_strict (
    refine wpAny_call ?_
    k_dflt cell_enter
    k_steps
    all_goals refine cb_retI hret ?_ (by assumption) (by assumption)
    all_goals (unfold d1 d0 mo; first | rw [if_pos (by assumption)] | rw [if_neg (by assumption)]))
end
local macro_rules | `(tactic| walk_at "call ref") => `(tactic| (k_here; (with_reducible show wpAny _ _ (call (Value.ref 75) [Value.int _ _]) _ _ _); k_dflt (refine' Con.app (c_d1 ?ha ?hb _) ?k1 ?k2 ?k3 ?k4 ?k5 ?kK ?kd ?ku ?_; (case k1 => k_asm); (case k2 => k_asm); (case k3 => k_asm); (case k4 => k_asm); (case k5 => k_asm); (case kK => first | exact rfl | assumption); (case kd => ktr_room); (case ku => ktr_units); (case ha => omega); (case hb => omega); intro t9 h9 tk9 F9 N9; (try dsimp only); (try k_fold))))
section
theorem c_d2 {y : Int} (h1 : -9000 < y) (h2 : y < 7200000000) (t : Tok) : Con w mean mg mb 82 3 [.int y t] (fun t => .int (d2 y) t) := by
  unfold Con
  k_fill
  intro dp un gd cn cs a ccd cl outer A₀ base h₀ L m news s Q E B F X N T hk hd hu hret
  w_on
  w_strict (
    refine wpAny_call ?_
    k_dflt cell_enter
    have b1 := d1_bnd (show -10000 < y by omega) (show y < 7300000000 by omega)
    have b2 := d1_bnd (show -10000 < y + 1 by omega) (show y + 1 < 7300000000 by omega)
    have b3 := d1_bnd (show -10000 < y - 1 by omega) (show y - 1 < 7300000000 by omega)
    k_steps
    all_goals refine cb_retI hret ?_ (by assumption) (by assumption)
    all_goals (unfold d2; simp_all))
end
local macro_rules | `(tactic| walk_at "call ref") => `(tactic| (k_here; (with_reducible show wpAny _ _ (call (Value.ref 82) [Value.int _ _]) _ _ _); k_dflt (refine' Con.app (c_d2 ?ha ?hb _) ?k1 ?k2 ?k3 ?k4 ?k5 ?kK ?kd ?ku ?_; (case k1 => k_asm); (case k2 => k_asm); (case k3 => k_asm); (case k4 => k_asm); (case k5 => k_asm); (case kK => first | exact rfl | assumption); (case kd => ktr_room); (case ku => ktr_units); (case ha => omega); (case hb => omega); intro t9 h9 tk9 F9 N9; (try dsimp only); (try k_fold))))
section
theorem c_jd7 {y d : Int} (h1 : -9000 < y) (h2 : y < 7200000000) (h3 : 0 ≤ d) (h4 : d ≤ 400) (t t' t'' : Tok) : Con w mean mg mb 110 4 [.int y t, .int 7 t', .int d t''] (fun t => .float (J (ny y + d)) t) := by
  unfold Con
  k_fill
  intro dp un gd cn cs a ccd cl outer A₀ base h₀ L m news s Q E B F X N T hk hd hu hret
  w_on
  w_strict (
    refine wpAny_call ?_
    k_dflt cell_enter
    have b1 := d1_bnd (show -10000 < y by omega) (show y < 7300000000 by omega)
    have b2 := d2_bnd y
    k_steps
    all_goals refine cb_retF hret ?_ (by assumption) (by assumption)
    all_goals (unfold J tr ny; congr 1; split <;> omega))
theorem c_jd7p {y d : Int} (h1 : -951 ≤ y) (h2 : y < 7200000000) (h3 : 0 ≤ d) (h4 : d ≤ 400) (t t' t'' : Tok) : Con w mean mg mb 110 4 [.int y t, .int 7 t', .int d t''] (fun t => .float (G (1024 * (ny y + d) + 512)) t) := by
  have h := c_jd7 (w := w) (mean := mean) (mg := mg) (mb := mb) (show -9000 < y by omega) h2 h3 h4 t t' t''
  rw [J_pos (show 0 ≤ ny y + d by have := ny_pos h1; omega)] at h
  exact h
end
local macro_rules | `(tactic| walk_at "call ref") => `(tactic| (k_here; (with_reducible show wpAny _ _ (call (Value.ref 110) [Value.int _ _, Value.int 7 _, Value.int _ _]) _ _ _); k_dflt (refine' ConR.app (Con.facts (c_jd7p ?ha ?hb ?hc ?he _ _ _) (f_jd7 ?ha ?hb ?hc ?he)) ?k1 ?k2 ?k3 ?k4 ?k5 ?kK ?kd ?ku ?_; (case k1 => k_asm); (case k2 => k_asm); (case k3 => k_asm); (case k4 => k_asm); (case k5 => k_asm); (case kK => first | exact rfl | assumption); (case kd => ktr_room); (case ku => ktr_units); (case ha => omega); (case hb => omega); (case hc => omega); (case he => omega); intro t9 h9 tk9 P9 F9 N9; (try dsimp only); (try k_fold))))
section
theorem c_yd {y : Int} (h1 : -951 ≤ y) (h2 : y < 7100000000) (t : Tok) : Con w mean mg mb 89 5 [.int y t] (fun t => .float (G (1024 * yl y)) t) := by
  unfold Con
  k_fill
  intro dp un gd cn cs a ccd cl outer A₀ base h₀ L m news s Q E B F X N T hk hd hu hret
  w_on
  w_strict (
    refine wpAny_call ?_
    k_dflt cell_enter
    have b1 := ny_bnd (show -10000 < y by omega) (show y < 7300000000 by omega)
    have b2 := ny_bnd (show -10000 < y + 1 by omega) (show y + 1 < 7300000000 by omega)
    k_steps
    all_goals refine cb_retF hret ?_ (by assumption) (by assumption)
    all_goals (unfold yl; congr 1; omega))
end
local macro_rules | `(tactic| walk_at "call ref") => `(tactic| (k_here; (with_reducible show wpAny _ _ (call (Value.ref 89) [Value.int _ _]) _ _ _); k_dflt (refine' ConR.app (Con.facts (c_yd ?ha ?hb _) (f_yd ?ha)) ?k1 ?k2 ?k3 ?k4 ?k5 ?kK ?kd ?ku ?_; (case k1 => k_asm); (case k2 => k_asm); (case k3 => k_asm); (case k4 => k_asm); (case k5 => k_asm); (case kK => first | exact rfl | assumption); (case kd => ktr_room); (case ku => ktr_units); (case ha => omega); (case hb => omega); intro t9 h9 tk9 P9 F9 N9; (try dsimp only); (try k_fold))))
section
theorem c_ml {y m : Int} (h1 : -951 ≤ y) (h2 : y < 7100000000) (h3 : m ≤ 13) (t t' : Tok) : Con w mean mg mb 96 6 [.int y t, .int m t'] (fun t => .int (mlen y m) t) := by
  unfold Con
  k_fill
  intro dp un gd cn cs a ccd cl outer A₀ base h₀ L mm news s Q E B F X N T hk hd hu hret
  w_on
  w_strict (
    refine wpAny_call ?_
    k_dflt cell_enter
    k_steps
    all_goals refine cb_retI hret ?_ (by assumption) (by first | assumption | (refine' cb_drop ?cbN ?cbS; (case cbN => assumption); (case cbS => kcj_all)))
    all_goals first
      | exact ml_a (any5t (by assumption))
      | exact ml_b (by assumption) (by assumption)
      | exact ml_c (by assumption) (by assumption)
      | exact ml_d (by assumption) (by omega)
      | exact ml_e (by assumption) (by omega)
      | exact ml_f (by assumption) (by omega)
      | exact ml_g (by assumption) (by omega)
      | exact ml_h (any5f (by assumption)) (by assumption) (by assumption) (by assumption)
      | (exfalso; omega))
end
local macro_rules | `(tactic| walk_at "call ref") => `(tactic| (k_here; (with_reducible show wpAny _ _ (call (Value.ref 96) [Value.int _ _, Value.int _ _]) _ _ _); k_dflt (refine' ConR.app (Con.facts (c_ml ?ha ?hb ?hc _ _) (f_ml ?ha ?hc)) ?k1 ?k2 ?k3 ?k4 ?k5 ?kK ?kd ?ku ?_; (case k1 => k_asm); (case k2 => k_asm); (case k3 => k_asm); (case k4 => k_asm); (case k5 => k_asm); (case kK => first | exact rfl | assumption); (case kd => ktr_room); (case ku => ktr_units); (case ha => omega); (case hb => omega); (case hc => omega); intro t9 h9 tk9 P9 F9 N9; (try dsimp only); (try k_fold))))
section
theorem c_md {y m : Int} (h1 : -951 ≤ y) (h2 : y < 7100000000) (h3 : m ≤ 13) (t t' : Tok) : Con w mean mg mb 103 7 [.int y t, .int m t'] (fun t => .int (mlen y m) t) := by
  unfold Con
  k_fill
  intro dp un gd cn cs a ccd cl outer A₀ base h₀ L mm news s Q E B F X N T hk hd hu hret
  w_on
  w_strict (
    refine wpAny_call ?_
    k_dflt cell_enter
    k_steps
    all_goals exact cb_retI hret rfl (by assumption) (by assumption))
end
local macro_rules | `(tactic| walk_at "call ref") => `(tactic| (k_here; (with_reducible show wpAny _ _ (call (Value.ref 103) [Value.int _ _, Value.int _ _]) _ _ _); k_dflt (refine' ConR.app (Con.facts (c_md ?ha ?hb ?hc _ _) (f_ml ?ha ?hc)) ?k1 ?k2 ?k3 ?k4 ?k5 ?kK ?kd ?ku ?_; (case k1 => k_asm); (case k2 => k_asm); (case k3 => k_asm); (case k4 => k_asm); (case k5 => k_asm); (case kK => first | exact rfl | assumption); (case kd => ktr_room); (case ku => ktr_units); (case ha => omega); (case hb => omega); (case hc => omega); intro t9 h9 tk9 P9 F9 N9; (try dsimp only); (try k_fold))))
section
local macro_rules | `(tactic| walk_at "pyIter ref") => `(tactic| ((with_reducible show wpAny _ _ (pyIter (Value.ref _)) (fun it s₂ => LoopAtV _ _ _ _ _ _ _ _ _ it s₂) _ _); (rename YY _ => yyX); (rename Fr _ _ _ _ => lF'); (rename News _ _ _ _ => lN'); (rename IsRange _ _ _ _ _ _ _ _ => rgX); (with_unfolding_all refine' iterRange_sm (y := Str.ofString "jd") yyX (by rfl) (by first | exact rgX | assumption) (by first | exact small_one (by l_bnd) (by l_bnd) (by l_bnd) (by l_bnd) | decide) (by exact rangeSize_nat _ _) lF' lN' (by rfl) (fun i' t' ta' h' tk' own' hi' hb1' hb2' hb3' hoff' F' N' => ?_) (fun u' t' h' tk' hb1' hb2' F' N' => ?_)); (all_goals (try clear lF' lN')); (all_goals (try simp only [List.nil_append, List.cons_append, List.append_nil] at N')); (all_goals (try k_fold))))
local macro_rules | `(tactic| walk_at "InvEndN") => `(tactic| (refine InvEndN.intro (by assumption) (by assumption) ⟨rfl, ⟨_, by with_unfolding_all rfl⟩, by k_same2⟩ (by rfl) (fun p hp => List.mem_append.mpr (.inl hp)) (fun p hp => List.mem_append.mpr (.inr hp))))
theorem c_jd {y m d : Int} (h1 : -951 ≤ y) (h2 : y < 7100000000) (h3 : 1 ≤ m) (h4 : m ≤ 13) (h5 : 0 ≤ d) (h6 : d ≤ 400) (t t' t'' : Tok) : Con w mean mg mb 110 8 [.int y t, .int m t', .int d t''] (fun t => .float (G (1024 * dn y m d + 512)) t) := by
  unfold Con
  k_fill
  intro dp un gd cn cs a ccd cl outer A₀ base h₀ L mm news s Q E B F X N T hk hd hu hret
  w_on
  w_strict (
    refine wpAny_call ?_
    k_dflt cell_enter
    have b1 := d1_bnd (show -10000 < y by omega) (show y < 7300000000 by omega)
    have b2 := d2_bnd y
    have b3 : ym y = 12 ∨ ym y = 13 := by unfold ym; split <;> simp
    have b4 := ny_pos h1
    have b5 : ny y = 347996 + d1 y + d2 y := rfl
    have yy : YY y := trivial
    k_steps
    all_goals refine cb_retF hret ?_ (by assumption) (by first | assumption | (refine' cb_drop ?cbN ?cbS; (case cbN => assumption); (case cbS => kcj_all)))
    all_goals (unfold dn off; congr 1; (first | rw [if_pos (by assumption)] | rw [if_neg (by assumption)]); rw [b5]; omega))
end
local macro_rules | `(tactic| walk_at "call ref") => `(tactic| (k_here; (with_reducible show wpAny _ _ (call (Value.ref 110) [Value.int _ _, Value.int _ _, Value.int _ _]) _ _ _); k_dflt (refine' ConR.app (Con.facts (c_jd ?ha ?hb ?hc ?he ?hf ?hg _ _ _) (dn_bnd ?ha ?hb ?hc ?he ?hf ?hg)) ?k1 ?k2 ?k3 ?k4 ?k5 ?kK ?kd ?ku ?_; (case k1 => k_asm); (case k2 => k_asm); (case k3 => k_asm); (case k4 => k_asm); (case k5 => k_asm); (case kK => first | exact rfl | assumption); (case kd => ktr_room); (case ku => ktr_units); (case ha => omega); (case hb => omega); (case hc => omega); (case he => omega); (case hf => first | omega | exact (mlen_bd _ _).1); (case hg => first | omega | exact (mlen_bd _ _).2); intro t9 h9 tk9 P9 F9 N9; (try dsimp only); (try k_fold))))
section
abbrev tupO (vs : List Value) : Obj := { cls := .type "tuple", data := .seq vs.toArray }
abbrev RetT (y m d : Int) : RetP := fun h₀ L mm news s Q => ∀ (t1 t2 t3 : Tok) (r : Addr) (h' : Heap) (tk' : Nat), Fr h₀ L h' mm → News h₀ L h' ((r, { cls := .type "tuple", data := .seq [Value.int y t1, Value.int m t2, Value.int d t3].toArray }) :: news) → (∀ p ∈ news, p.1 < r) → Q (.ref r) { s with heap := h', toks := tk' }
theorem end_fj {y m d a b c : Int} {h₀ h' : Heap} {L r : Addr} {mm : Str → Option Value} {news : List (Addr × Obj)} {s : Shared} {Q : Value → Shared → Prop} {t1 t2 t3 : Tok} {tk' : Nat} (hret : RetT y m d h₀ L mm news s Q)
    (F : Fr h₀ L h' mm) (NN : News h₀ L h' ((r, tupO [Value.int a t1, Value.int b t2, Value.int c t3]) :: news)) (l : ∀ p ∈ news, p.1 < r) (e1 : a = y) (e2 : b = m) (e3 : c = d) : Q (.ref r) { s with heap := h', toks := tk' } := by
  subst e1; subst e2; subst e3
  exact hret t1 t2 t3 r h' tk' F NN l
theorem c_jd7t {y : Int} (h1 : -9000 < y) (h2 : y < 7200000000) (t t' t'' : Tok) : Con w mean mg mb 110 4 [.int y t, .int 7 t', .int 1 t''] (fun t => .float (G (1024 * tr (ny y + 1) + 512)) t) := c_jd7 h1 h2 (by omega) (by omega) t t' t''
local macro_rules | `(tactic| walk_at "call builtin:math.floor") => `(tactic| first | ((rename FlAt _ _ => flX); (with_reducible refine r_floorN flX ?_)) | ((with_reducible refine r_floorc ?ha ?hb ?_); (case ha => omega); (case hb => omega); intro cI hc1 hc2; (try dsimp only); (rename FJ _ _ _ _ => fjX); (have hc3 := fjX.count (by omega) hc1 hc2)))
local macro_rules | `(tactic| walk_at "binaryOp Mult float float") => `(tactic| ((with_reducible refine' r_mulc ?hx ?ha ?_); (case hx => with_reducible rfl); (case ha => omega)))
local macro_rules | `(tactic| walk_at "binaryOp Div float float") => `(tactic| (with_reducible refine r_divc ?_))
local macro_rules | `(tactic| walk_at "compareOp GtE float float") => `(tactic| ((rename FJ _ _ _ _ => fjX); (with_reducible refine' r_ge_w fjX ?ha ?hb ?_); (case ha => omega); (case hb => omega)))
local macro_rules | `(tactic| walk_at "compareOp Lt float float") => `(tactic| ((rename FJ _ _ _ _ => fjX); (with_reducible refine' r_lt_w fjX ?ha ?_); (case ha => omega)))
local macro_rules | `(tactic| walk_at "compareOp Gt float float") => `(tactic| ((rename FJ _ _ _ _ => fjX); (with_reducible refine' r_gt_w fjX ?ha ?hb ?hc ?he ?_); (case ha => omega); (case hb => omega); (case hc => omega); (case he => omega)))
local macro_rules | `(tactic| walk_at "binaryOp Sub float float") => `(tactic| ((rename FJ _ _ _ _ => fjX); (with_reducible refine' r_sub_w fjX ?ha ?hb ?_); (case ha => omega); (case hb => omega)))
local macro_rules | `(tactic| walk_at "call ref") => `(tactic| (k_here; (with_reducible show wpAny _ _ (call (Value.ref 110) [Value.int _ _, Value.int 7 _, Value.int 1 _]) _ _ _); k_dflt (refine' Con.app (c_jd7t ?ha ?hb _ _ _) ?k1 ?k2 ?k3 ?k4 ?k5 ?kK ?kd ?ku ?_; (case k1 => k_asm); (case k2 => k_asm); (case k3 => k_asm); (case k4 => k_asm); (case k5 => k_asm); (case kK => first | exact rfl | assumption); (case kd => ktr_room); (case ku => ktr_units); (case ha => omega); (case hb => omega); intro t9 h9 tk9 F9 N9; (try dsimp only); (try k_fold))))
theorem c_fj {y m d N : Int} {x : UInt64} (f : FJ y m d N) (hx : FlAt x N) (t : Tok) : ConR w mean mg mb 117 10 [.float x t] (RetT y m d) := by
  unfold ConR
  k_fill
  intro dp un gd cn cs a ccd cl outer A₀ base h₀ L mm news s Q E B F X NN T hk hd hu hret
  w_on
  w_strict (
    refine wpAny_call ?_
    k_dflt cell_enter
    have b0 := f.bnd
    have b1 := f.y1
    have b2 := f.y2
    have b3 := f.m1
    have b4 := f.m2
    have b5 := ym_le y
    have b6 := f.d1
    have b7 := f.d2
    have b8 := mlen_bnd y m
    k_with "exec While Compare cons nil" => (k_while (fun _ i yr => y - 6 ≤ i ∧ i ≤ y + 1 ∧ yr = i - 1) (fun _ i _ => (y + 1 - i).toNat) "i" "year")
    k_with "exec While Compare cons nil" => (k_while (fun _ i mo => 1 ≤ i ∧ i ≤ m ∧ (7 ≤ m → 7 ≤ i) ∧ mo = i) (fun _ i _ => (m - i).toNat) "i" "month")
    k_steps
    all_goals exact end_fj hret (by assumption) (by assumption) (by assumption) (by omega) (by omega) (by omega))
end
local macro_rules | `(tactic| walk_at "call ref") => `(tactic| (k_here; (with_reducible show wpAny _ _ (call (Value.ref 117) [Value.float _ _]) _ _ _); (rename FJ _ _ _ _ => fjX); (rename FlAt _ _ => flX); k_dflt (refine' ConR.app (c_fj fjX flX _) ?k1 ?k2 ?k3 ?k4 ?k5 ?kK ?kd ?ku ?_; (case k1 => k_asm); (case k2 => k_asm); (case k3 => k_asm); (case k4 => k_asm); (case k5 => k_asm); (case kK => first | exact rfl | assumption); (case kd => ktr_room); (case ku => ktr_units); intro t1 t2 t3 r9 h9 tk9 F9 N9 l9; (try k_lt l9); (try dsimp only); (try k_fold))))
section
theorem c_jw {n : Int} (h1 : 0 ≤ n) (h2 : n < 2670000401000) (t : Tok) : Con w mean mg mb 49 2 [.float (G (1024 * n + 512)) t] (fun t => .int ((n + 1) % 7) t) := by
  unfold Con
  k_fill
  intro dp un gd cn cs a ccd cl outer A₀ base h₀ L m news s Q E B F X N T hk hd hu hret
  w_on
  w_strict (
    refine wpAny_call ?_
    k_dflt cell_enter
    k_steps
    all_goals refine cb_retI hret ?_ (by assumption) (by assumption)
    all_goals omega)
abbrev RetCal (lp ml : Nat) : RetP := fun h₀ L mm news s Q => ∀ (r : Addr) (h' : Heap) (tk' : Nat) (all : List (Addr × Obj)), Fr h₀ L h' mm → News h₀ L h' (news ++ all) → Bears all (.ref r) (calD lp ml) → Q (.ref r) { s with heap := h', toks := tk' }
local macro_rules | `(tactic| walk_at "binaryOp Mult ref int") => `(tactic| (k_here; k_dflt (refine' r_mulN ?F ?N ?m ?lo ?hi ?_; (case F => k_asm); (case N => k_asm); (case m => k_mem); (case lo => omega); (case hi => omega)); intro D' h' F' N' l1; (try k_lt l1); (try k_sweep)))
local macro_rules | `(tactic| walk_at "binaryOp Mult int ref") => `(tactic| (k_here; k_dflt (refine' r_mulNr ?F ?N ?m ?lo ?hi ?_; (case F => k_asm); (case N => k_asm); (case m => k_mem); (case lo => omega); (case hi => omega)); intro D' h' F' N' l1; (try k_lt l1); (try k_sweep)))
local macro_rules | `(tactic| walk_at "binaryOp Add ref ref") => `(tactic| (k_here; k_dflt (refine' r_addL ?F ?N ?m ?m2 ?z ?_; (case F => k_asm); (case N => k_asm); (case m => k_mem); (case m2 => k_mem); (case z => (have hLz := IntsAre.length (by assumption)); (simp only [List.length_append, List.length_replicate, rangeKs_length] at *); omega)); intro D' h' F' N' l1; (try k_lt l1); (try k_sweep)))
local macro_rules | `(tactic| k_all) => `(tactic| ((rename Low _ _ => low9); intro p9 hp9 e9; (have q9 := low9.lt p9 hp9); (rw [e9] at q9); (refine absurd q9 (Nat.not_lt.mpr (leN ?_))); (try dsimp only); omega))
local macro_rules | `(tactic| walk_at "subscriptTail Name Slice ref ref") => `(tactic| (k_here; k_dflt (refine' kms_slice_lit ?F ?N ?l ?p ?q ?e ?_ ?s ?t ?z; (case F => k_asm); (case N => k_asm); (case l => exact News.isList (by k_asm) (by k_mem)); (case p => exact .int _ _); (case q => exact .int _ _); (case e => rfl); (case s => with_unfolding_all rfl); (case t => kmk_pure); (case z => (simp only [List.size_toArray, List.length_append, List.length_replicate, sizeLine_eq] at *; omega))); intro D' h' F' N' l1; (try k_lt l1); (try k_sweep)))
local macro_rules | `(tactic| walk_at "eval ListComp") => `(tactic| (k_here; lcf_look; k_dflt (refine ListComp_W (F₀ := by k_asm) (by with_unfolding_all rfl) (by decide) (by rfl) (by decide) (by rfl) ?_)))
theorem c_mch {sw ml : Int} (h1 : 0 ≤ sw) (h2 : sw < 7) (h3 : ml = 29 ∨ ml = 30) (t t' : Tok) : ConR w mean mg mb 54 2 [.int sw t, .int ml t'] (RetCal ((sw + 1) % 7).toNat ml.toNat) := by
  unfold ConR
  k_fill
  intro dp un gd cn cs a ccd cl outer A₀ base h₀ L mm news s Q E B F X NN T hk hd hu hret
  w_on
  w_strict (
    refine wpAny_call ?_
    k_dflt (refine' code_defC ?k1 ?k2 ?k3 ?k4 ?k5 ?kA ?kF ?kK ?k6 ?k7 ?k8 ?k9 ?kB ?kD ?_ ?c2 ?c3 ?c4; (case kA => exact rfl); (case kF => exact rfl); (case kK => assumption); (case k1 => k_asm); (case k2 => k_asm); (case k3 => k_asm); (case k4 => k_asm); (case k5 => k_asm); (case k6 => k_is); (case k7 => k_is); (case k8 => ktr_room); (case k9 => exact BindsTo.of_eq rfl); (case kB => exact rfl); (case kD => decide +kernel); (case c2 => exact rfl); (case c3 => exact rfl); (case c4 => exact rfl); k_whole; intro g' L' h' tk' cells' FG' F' N' Y' B' X' T' l1; (try k_lt l1); k_cells Y'; (try simp only [List.cons_append, List.nil_append] at N'); (try dsimp only); (try k_lift B'); (try k_fold))
    have low := Low.mk l1
    k_steps
    rename IntsAre _ _ => hI
    rename_i vs c5 h6 tk6 l4 D5 h5 l3 lA h4 l2 DB h3b l1b D0 hD2 lD hD1 o2 F2 N2 d2 h3 tk3 t3 u3 v3 hR hF hN hK
    have hlen := hI.length
    simp only [rangeKs_length] at hlen
    obtain ⟨led, hd0, hc0, hs0, hNb⟩ : ∃ led, (D0, listOf _ 0) ∈ led ∧ (L' + 1, o2) ∈ led ∧ (∀ p ∈ news, p ∈ led) ∧ News g' L' h3 led := ⟨_, by k_mem, by k_mem, fun p hp => by simp [hp], hN⟩
    refine ⟨_, _, _, _, _, _, _, (((sw + 1) % 7).toNat + ml.toNat + 6) / 7, _, rfl, rfl, hF, hNb, hR, ?_, ?_, ?_, ?_⟩
    · unfold Builtin.Range.small Builtin.Range.rangeSize
      rw [if_pos (by decide), if_pos (by omega)]
      simp [Builtin.Range.rangeFitsLong]; omega
    · unfold Builtin.Range.rangeSize
      rw [if_pos (by decide), if_pos (by omega)]
      omega
    · rw [sizeLine_eq]; omega
    rintro s₂ ⟨gg, rfl⟩
    refine rest_ind (fun i ys nw => (∀ p ∈ led, p ∈ nw) ∧ BearsAll nw ys ((List.range i).map (rowD ((sw + 1) % 7).toNat ml.toNat))) ?_ ?_ _ 0 [] led (Nat.zero_add _) ⟨fun p hp => hp, .nil⟩
    · intro i ys nw v I oI C oC D m₂ h tk E' hi hJ hP hC hx F1 N1 off ne
      obtain ⟨hb, hB⟩ := hJ
      obtain ⟨tv, rfl⟩ := hP
      have N3 : News g' L' h ((I, oI) :: (C, oC) :: (D, LCg.lst ys) :: (D0, listOf _ 0) :: (L' + 1, o2) :: nw) := fun p hp => by
        rcases List.mem_cons.mp hp with rfl | hp
        · exact N1 _ (.head _)
        rcases List.mem_cons.mp hp with rfl | hp
        · exact N1 _ (.tail _ (.head _))
        rcases List.mem_cons.mp hp with rfl | hp
        · exact N1 _ (.tail _ (.tail _ (.head _)))
        rcases List.mem_cons.mp hp with rfl | hp
        · exact N1 _ (.tail _ (.tail _ (.tail _ (hb _ hd0))))
        rcases List.mem_cons.mp hp with rfl | hp
        · exact N1 _ (.tail _ (.tail _ (.tail _ (hb _ hc0))))
        · exact N1 _ (.tail _ (.tail _ (.tail _ hp)))
      clear N1 hN hF N2 F2 hNb
      k_steps
      rename_i r h9 F9 N9 l9
      refine LCg.CompEnd.intro F9 N9 ((r, listOf (kms_pick ((List.replicate ((sw + 1) % 7).toNat Value.none ++ vs) ++ List.replicate 7 Value.none) (some (0 + (i : Int) * 7)) (some (0 + (i : Int) * 7 + 7))).toArray 0) :: nw) ?_ ⟨⟨Nat.ne_of_gt l9.1, Nat.ne_of_gt l9.2.1, Nat.ne_of_gt l9.2.2.1⟩, off⟩ trivial ⟨fun p hp => .tail _ (hb p hp), ?_⟩
      · intro p hp
        simp only [List.mem_cons] at hp ⊢
        rcases hp with hp | hp | hp | hp | hp <;> simp [hp]
      · rw [List.range_succ, List.map_append]
        exact (hB.mono fun p hp => .tail _ hp).snoc (bears_flat (.head _) (leaf_row hI (by omega) hi))
    · intro ys nw hJ
      obtain ⟨hb, hB⟩ := hJ
      intro D h tk F1 N1 o1
      clear hN hF N2 F2 hNb
      k_steps
      rename Fr _ _ _ _ => FZ
      rename News _ _ _ _ => NZ
      exact hret D h tk ((D, LCg.lst ys) :: nw) FZ (fun p hp => NZ p ((List.mem_append.mp hp).elim (fun q => .tail _ (hb p (hs0 p q))) id)) (bears_list (.head _) (hB.mono fun p hp => .tail _ hp)))
end
local macro_rules | `(tactic| walk_at "call ref") => `(tactic| (k_here; (with_reducible show wpAny _ _ (call (Value.ref 49) [Value.float _ _]) _ _ _); k_dflt (refine' Con.app (c_jw ?ha ?hb _) ?k1 ?k2 ?k3 ?k4 ?k5 ?kK ?kd ?ku ?_; (case k1 => k_asm); (case k2 => k_asm); (case k3 => k_asm); (case k4 => k_asm); (case k5 => k_asm); (case kK => first | exact rfl | assumption); (case kd => ktr_room); (case ku => ktr_units); (case ha => omega); (case hb => omega); intro t9 h9 tk9 F9 N9; (try dsimp only); (try k_fold))))
local macro_rules | `(tactic| walk_at "call ref") => `(tactic| (k_here; (with_reducible show wpAny _ _ (call (Value.ref 54) [Value.int _ _, Value.int _ _]) _ _ _); k_dflt (refine' ConR.app (c_mch ?ha ?hb ?hc _ _) ?k1 ?k2 ?k3 ?k4 ?k5 ?kK ?kd ?ku ?_; (case k1 => k_asm); (case k2 => k_asm); (case k3 => k_asm); (case k4 => k_asm); (case k5 => k_asm); (case kK => first | exact rfl | assumption); (case kd => ktr_room); (case ku => ktr_units); (case ha => omega); (case hb => omega); (case hc => exact mlen_bnd _ _); intro r9 h9 tk9 all9 F9 N9 B9; (try dsimp only); (try simp only [List.nil_append, List.cons_append] at N9); (try k_fold))))
section
theorem c_mc {y m : Int} (h1 : -951 ≤ y) (h2 : y < 7100000000) (h3 : 1 ≤ m) (h4 : m ≤ 13) (t t' : Tok) : ConR w mean mg mb 124 10 [.int y t, .int m t'] (RetCal (((dn y m 1 + 1) % 7 + 1) % 7).toNat (mlen y m).toNat) := by
  unfold ConR
  k_fill
  intro dp un gd cn cs a ccd cl outer A₀ base h₀ L mm news s Q E B F X NN T hk hd hu hret
  w_on
  w_strict (
    refine wpAny_call ?_
    k_dflt cell_enter
    have b1 := dn_bnd h1 h2 h3 h4 (show (0 : Int) ≤ 1 by omega) (show (1 : Int) ≤ 400 by omega)
    k_steps
    all_goals exact hret _ _ _ _ (by assumption) (by assumption) (by assumption))
end
local macro_rules | `(tactic| walk_at "call ref") => `(tactic| (k_here; (with_reducible show wpAny _ _ (call (Value.ref 124) [Value.int _ _, Value.int _ _]) _ _ _); k_dflt (refine' ConR.app (c_mc ?ha ?hb ?hc ?he _ _) ?k1 ?k2 ?k3 ?k4 ?k5 ?kK ?kd ?ku ?_; (case k1 => k_asm); (case k2 => k_asm); (case k3 => k_asm); (case k4 => k_asm); (case k5 => k_asm); (case kK => first | exact rfl | assumption); (case kd => ktr_room); (case ku => ktr_units); (case ha => omega); (case hb => omega); (case hc => omega); (case he => omega); intro r9 h9 tk9 all9 F9 N9 B9; (try dsimp only); (try simp only [List.nil_append, List.cons_append] at N9); (try k_fold))))
theorem c_thirteen (y : Int) (t : Tok) : Con w mean mg mb 131 2 [.int y t] (fun _ => .bool (leapB y)) := by
  unfold Con
  k_fill
  intro dp un gd cn cs a ccd cl outer A₀ base h₀ L m news s Q E B F X N T hk hd hu hret
  w_on
  w_strict (
    refine wpAny_call ?_
    k_dflt cell_enter
    k_steps
    all_goals exact cb_retB hret (by first | exact in_long y | exact (in_long y).symm) (by assumption) (by first | assumption | (refine' cb_drop ?cbN ?cbS; (case cbN => assumption); (case cbS => kcj_all))))
abbrev RetGates (ks : List (Int × Int × Int)) : RetP := fun h₀ L mm news s Q => ∀ (r : Addr) (vs : List Value) (h' : Heap) (tk' : Nat) (all : List (Addr × Obj)), Fr h₀ L h' mm → News h₀ L h' (news ++ all) → (r, tupJ vs) ∈ all → TriplesIn all (fun _ => True) vs ks → Q (.ref r) { s with heap := h', toks := tk' }
section
local macro_rules | `(tactic| k_lt $h:ident) => `(tactic| skip)
local macro_rules | `(tactic| k_ne) => `(tactic| first | exact ne_mem (by assumption) (by k_mem) | exact ne_mem' (by assumption) (by k_mem) | (refine neN ?_; (try dsimp only); omega))
local macro_rules | `(tactic| k_all) => `(tactic| exact all_ne (by assumption))
local macro_rules | `(tactic| walk_at "subscriptTail") => `(tactic| ((fail_if_success (with_reducible show wpAny _ _ (subscriptTail (PySem.Expr.Name _ _) _ _ _) _ _ _)); k_dflt (refine kba_turn (value' := PySem.Expr.Name (PySem.Str.ofString "_") ⟨0, 0, 0, 0⟩) (fun _ => rfl) ?_)))
local macro_rules | `(tactic| walk_at "assign Name") => `(tactic| (dsimp only; walk_at "assign Name"))
local macro_rules | `(tactic| walk_at "assignInOrder") => `(tactic| (dsimp only; walk_at "assignInOrder"))
local macro_rules | `(tactic| walk_at "newTuple") => `(tactic| (dsimp only; walk_at "newTuple"))
local macro_rules | `(tactic| walk_at "newList") => `(tactic| (dsimp only; walk_at "newList"))
local macro_rules | `(tactic| walk_at "setItem ref int") => `(tactic| (dsimp only; walk_at "setItem ref int"))
local macro_rules | `(tactic| walk_at "callWith ref") => `(tactic| (dsimp only; walk_at "callWith ref"))
local macro_rules | `(tactic| walk_at "eval Call") => `(tactic| ((with_reducible show wpAny _ _ (eval _ (envOfC _ _ _ _ _)) _ _ _); k_dflt (refine Call_ ?_)))
local macro_rules | `(tactic| walk_at "eval Call") => `(tactic| ((with_reducible show wpAny _ _ (eval _ (compEnvC _ _ _ _)) _ _ _); k_dflt (refine Call_ ?_)))
local macro_rules | `(tactic| walk_at "call ref") => `(tactic| (k_here; (with_reducible show wpAny _ _ (call (Value.ref 131) [Value.int _ _]) _ _ _); k_dflt (refine' Con.app (c_thirteen _ _) ?k1 ?k2 ?k3 ?k4 ?k5 ?kK ?kd ?ku ?_; (case k1 => k_asm); (case k2 => k_asm); (case k3 => k_asm); (case k4 => k_asm); (case k5 => k_asm); (case kK => first | exact rfl | assumption); (case kd => ktr_room); (case ku => ktr_units); intro t9 h9 tk9 F9 N9; (try dsimp only); (try k_fold))))
theorem c_gates (y : Int) (t : Tok) : ConR w mean mg mb 138 4 [.int y t] (RetGates (gates3 y)) := by
  unfold ConR
  k_fill
  intro dp un gd cn cs a ccd cl outer A₀ base h₀ L mm news s Q E B F X NN T hk hd hu hret
  w_on
  w_strict (
    refine wpAny_call ?_
    k_dflt cell_enter
    k_steps
    all_goals (rename Fr _ _ _ _ => FZ)
    all_goals (rename News _ _ _ _ => NZ)
    all_goals (first
      | rw [show RetGates (gates3 y) = RetGates g3L by rw [gates3_l (by assumption)]] at hret
      | rw [show RetGates (gates3 y) = RetGates _ by rw [gates3_c (by assumption) (by assumption) (by assumption)]] at hret)
    all_goals (refine hret _ _ _ _ _ FZ (fun p hp => NZ p ((List.mem_append.mp hp).elim (fun q => by simp [q]) id)) (by k_mem) ?_)
    all_goals (repeat (first | exact .nil | refine .cons (by k_mem) True.intro ?_)))
end
abbrev RetYear (y : Int) : RetP := fun h₀ L mm news s Q => ∀ (t1 t2 : Tok) (r : Addr) (h' : Heap) (tk' : Nat), Fr h₀ L h' mm → News h₀ L h' ((r, tupJ [Value.int (ny y + 2) t1, Value.int (yl y) t2]) :: news) → Q (.ref r) { s with heap := h', toks := tk' }
theorem end_year {y fv : Int} {h₀ h' : Heap} {L r : Addr} {mm : Str → Option Value} {news led : List (Addr × Obj)} {s : Shared} {Q : Value → Shared → Prop} {t1 t2 : Tok} {tk' : Nat}
    (hret : RetYear y h₀ L mm news s Q) (F : Fr h₀ L h' mm) (NN : News h₀ L h' ((r, tupJ [Value.int fv t1, Value.int (yl y) t2]) :: led)) (e : fv = ny y + 2) (hs : ∀ p ∈ news, p ∈ led) : Q (.ref r) { s with heap := h', toks := tk' } := by
  subst e
  exact hret t1 t2 r h' tk' F (fun p hp => NN p ((List.mem_cons.mp hp).elim (fun q => q ▸ .head _) fun q => .tail _ (hs p q)))
section
local macro_rules | `(tactic| k_all) => `(tactic| ((rename Low _ _ => low9); intro p9 hp9 e9; (have q9 := low9.lt p9 hp9); (rw [e9] at q9); (refine absurd q9 (Nat.not_lt.mpr (leN ?_))); (try dsimp only); omega))
local macro_rules | `(tactic| k_lt $h:ident) => `(tactic| skip)
local macro_rules | `(tactic| k_ne) => `(tactic| first | exact ne_mem (by assumption) (by k_mem) | exact ne_mem' (by assumption) (by k_mem) | (refine neN ?_; (try dsimp only); omega))
local macro_rules | `(tactic| k_all) => `(tactic| exact all_ne (by assumption))
local macro_rules | `(tactic| walk_at "subscriptTail") => `(tactic| ((fail_if_success (with_reducible show wpAny _ _ (subscriptTail (PySem.Expr.Name _ _) _ _ _) _ _ _)); k_dflt (refine kba_turn (value' := PySem.Expr.Name (PySem.Str.ofString "_") ⟨0, 0, 0, 0⟩) (fun _ => rfl) ?_)))
local macro_rules | `(tactic| walk_at "assign Name") => `(tactic| (dsimp only; walk_at "assign Name"))
local macro_rules | `(tactic| walk_at "assignInOrder") => `(tactic| (dsimp only; walk_at "assignInOrder"))
local macro_rules | `(tactic| walk_at "newTuple") => `(tactic| (dsimp only; walk_at "newTuple"))
local macro_rules | `(tactic| walk_at "newList") => `(tactic| (dsimp only; walk_at "newList"))
local macro_rules | `(tactic| walk_at "setItem ref int") => `(tactic| (dsimp only; walk_at "setItem ref int"))
local macro_rules | `(tactic| walk_at "callWith ref") => `(tactic| (dsimp only; walk_at "callWith ref"))
local macro_rules | `(tactic| walk_at "eval Call") => `(tactic| ((with_reducible show wpAny _ _ (eval _ (envOfC _ _ _ _ _)) _ _ _); k_dflt (refine Call_ ?_)))
local macro_rules | `(tactic| walk_at "eval Call") => `(tactic| ((with_reducible show wpAny _ _ (eval _ (compEnvC _ _ _ _)) _ _ _); k_dflt (refine Call_ ?_)))
local macro_rules | `(tactic| walk_at "call ref") => `(tactic| (k_here; (with_reducible show wpAny _ _ (call (Value.ref 131) [Value.int _ _]) _ _ _); k_dflt (refine' Con.app (c_thirteen _ _) ?k1 ?k2 ?k3 ?k4 ?k5 ?kK ?kd ?ku ?_; (case k1 => k_asm); (case k2 => k_asm); (case k3 => k_asm); (case k4 => k_asm); (case k5 => k_asm); (case kK => first | exact rfl | assumption); (case kd => ktr_room); (case ku => ktr_units); intro t9 h9 tk9 F9 N9; (try dsimp only); (try k_fold))))
local macro_rules | `(tactic| walk_at "subscriptTail Name Constant ref int") => `(tactic| (k_here; (with_reducible show wpAny _ _ (subscriptTail (PySem.Expr.Name _ _) _ (Value.ref _) (Value.int _ _)) _ _ _); k_dflt (refine' r_tup ?hk ?N ?hm ?hj ?hx ?_ ?hs ?hg'; (case N => k_asm); (case hm => k_mem); (case hk => decide); (case hj => rfl); (case hx => rfl); (case hs => with_unfolding_all rfl); (case hg' => (intro _; with_unfolding_all rfl))); (try dsimp only)))
local macro_rules | `(tactic| walk_at "call ref") => `(tactic| (k_here; (with_reducible show wpAny _ _ (call (Value.ref 138) [Value.int _ _]) _ _ _); k_dflt (refine' ConR.app (c_gates _ _) ?k1 ?k2 ?k3 ?k4 ?k5 ?kK ?kd ?ku ?_; (case k1 => k_asm); (case k2 => k_asm); (case k3 => k_asm); (case k4 => k_asm); (case k5 => k_asm); (case kK => first | exact rfl | assumption); (case kd => ktr_room); (case ku => ktr_units); intro r9 vs9 h9 tk9 all9 F9 N9 m9 T9; (try dsimp only); (try k_fold))))
local macro_rules | `(tactic| walk_at "call builtin:divmod") => `(tactic| ((with_reducible show wpAny _ _ (call (Value.builtin _) [Value.int _ _, Value.int _ _]) _ _ _); k_dflt (refine' r_divmod ?F ?N ?hd ?_ ?hp; (case F => k_asm); (case N => k_asm); (case hd => decide); (case hp => first | exact Or.inl (PyProof.noPylong_small (by omega)) | exact Or.inl (PyProof.noPylong_of_log2 (by decide +kernel))); intro D' t1' t2' tk' h' F' N' l1; (try k_lt l1); (try dsimp only))))
local macro_rules | `(tactic| walk_at "pyIter ref") => `(tactic| ((with_reducible show wpAny _ _ (pyIter (Value.ref _)) (fun it s₂ => LoopAtV _ _ _ _ _ _ _ _ _ it s₂) _ _); (rename Fr _ _ _ _ => lF'); (rename News _ _ _ _ => lN'); (rename IsRange _ _ _ _ _ _ _ _ => rgX); (with_unfolding_all refine' iterRange_mo (y := Str.ofString "moons") (by rfl) (by first | exact rgX | assumption) (by first | exact small_one (by l_bnd) (by l_bnd) (by l_bnd) (by l_bnd) | decide) (by exact rangeSize_nat _ _) lF' lN' (by rfl) (fun i' t' ta' h' tk' own' hi' hs' hoff' F' N' => ?_) (fun u' t' h' tk' F' N' => ?_)); (all_goals (try clear lF' lN')); (all_goals (try simp only [List.nil_append, List.cons_append, List.append_nil] at N')); (all_goals (try k_fold))))
local macro_rules | `(tactic| walk_at "InvEndN") => `(tactic| (refine InvEndN.intro (by assumption) (by assumption) ⟨rfl, ⟨_, _, by with_unfolding_all rfl, by (rename ((leapB _ = true → _) ∧ _) => hs9; first | (have q9 := hs9.1 (by assumption); omega) | (have q9 := hs9.2 (by assumption); omega))⟩, by k_same2⟩ (by rfl) (fun p hp => List.mem_append.mpr (.inl hp)) (fun p hp => List.mem_append.mpr (.inr hp))))
local macro_rules | `(tactic| walk_at "eval ListComp") => `(tactic| (k_here; lct_look; k_dflt (refine ListComp_TT (F₀ := by k_asm) (by with_unfolding_all rfl) (by decide) (by rfl) (by decide) (by rfl) ?_)))
local macro_rules | `(tactic| walk_at "SrcTT") => `(tactic| focus ((rename YY _ => yyX); (rename TriplesIn _ _ _ _ => tX); k_dflt (refine' src_rows yyX (P := p3 _) rfl rfl ?F ?N ?hm tX ?_ ?_ ?_; (case F => k_asm); (case N => k_asm); (case hm => assumption); skip); (all_goals (first | (intro r' a' b' c' t' u' v' I' oI' C' oC' D' m2' ys' h' tk' E' hC' hx' F' N') | (intro r' I' oI' C' oC' D' m2' ys' h' tk' E' hC' hx' F' N') | (intro D' h' tk' k' t0' t1' t2' l' rest' n' F' N'))); (all_goals (try dsimp only)); (all_goals (try k_fold))))
local macro_rules | `(tactic| walk_at "TestPost") => `(tactic| (refine testPost ?he (by assumption) (by assumption); (case he => first | rfl | (rw [p3_of ?hk9]; (case hk9 => omega)) | (congr 1; apply propext; constructor <;> (intro; omega)))))
local macro_rules | `(tactic| walk_at "ElPost") => `(tactic| (exact elPost (by assumption) (by assumption)))
local macro_rules | `(tactic| walk_at "WhlIf") => `(tactic| first | (refine WhlIf.yes (decide_eq_true (by omega)) ?_) | (refine WhlIf.no (decide_eq_false (by omega)) ?_) | (refine bne_split (fun hW9 => ?_) (fun hW9 => ?_)) | (refine whl_split (fun hW9 => ?_) (fun hW9 => ?_)))
local macro_rules | `(tactic| walk_at "exec While") => `(tactic| (k_here; (rename YY _ => yyX); (rename Fr _ _ _ _ => lF'); (rename News _ _ _ _ => lN'); k_dflt (refine' while_even (x := Str.ofString "evening") yyX lF' lN' (by with_unfolding_all rfl) (by first | (rw [Int.fdiv_eq_ediv_of_nonneg _ (by decide)]; exact e3_of (by omega)) | exact e3_of (by omega)) ?_); clear lF' lN'; intro k' t' h' tk' kf' F' N'; (try dsimp only); (try k_fold)))
local macro_rules | `(tactic| walk_at "EvEnd") => `(tactic| (exact EvEnd.intro (by assumption) (by assumption) (by omega) ⟨_, by with_unfolding_all rfl⟩ (by intro z h1; first | rfl | (simp [h1]; done) | (simp_all; done)) (fun p hp => by simp [hp])))
theorem c_year {y : Int} (h1 : -951 ≤ y) (h2 : y < 7100000000) (t : Tok) : ConR w mean mg mb 143 10 [.int y t] (RetYear y) := by
  unfold ConR
  k_fill
  intro dp un gd cn cs a ccd cl outer A₀ base h₀ L mm news s Q E B F X NN T hk hd hu hret
  w_on
  w_strict (
    refine wpAny_call ?_
    k_dflt (refine' code_defC ?k1 ?k2 ?k3 ?k4 ?k5 ?kA ?kF ?kK ?k6 ?k7 ?k8 ?k9 ?kB ?kD ?_ ?c2 ?c3 ?c4; (case kA => exact rfl); (case kF => exact rfl); (case kK => assumption); (case k1 => k_asm); (case k2 => k_asm); (case k3 => k_asm); (case k4 => k_asm); (case k5 => k_asm); (case k6 => k_is); (case k7 => k_is); (case k8 => ktr_room); (case k9 => exact BindsTo.of_eq rfl); (case kB => exact rfl); (case kD => decide +kernel); (case c2 => exact rfl); (case c3 => exact rfl); (case c4 => exact rfl); k_whole; intro g' L' h' tk' cells' FG' F' N' Y' B' X' T' l1; (try k_lt l1); k_cells Y'; (try simp only [List.cons_append, List.nil_append] at N'); (try dsimp only); (try k_lift B'); (try k_fold))
    have low := Low.mk l1
    have yy : YY y := trivial
    have k3 := (kind3 y).2
    have no := ny_op y
    k_steps
    rename Fr _ _ _ _ => FZ
    rename News _ _ _ _ => NZ
    dsimp only at NZ ⊢
    exact end_year hret FZ NZ (by omega) (fun q hq => by simp [hq]))
end
abbrev RetMonth (y number : Int) : RetP := fun h₀ L mm news s Q => ∀ (t u v tb : Tok) (r r2 : Addr) (o k l f : Int) (h' : Heap) (tk' : Nat), RowF y o k l f → f ≤ number → number < f + l → Fr h₀ L h' mm → News h₀ L h' ((r, tupJ [Value.ref r2, Value.int f tb]) :: (r2, tupJ [Value.int o t, Value.int k u, Value.int l v]) :: news) → Q (.ref r) { s with heap := h', toks := tk' }
theorem end_month {y number o k l f : Int} {h₀ h' : Heap} {L r r2 : Addr} {mm : Str → Option Value} {news led : List (Addr × Obj)} {s : Shared} {Q : Value → Shared → Prop} {t u v tb : Tok} {tk' : Nat}
    (hret : RetMonth y number h₀ L mm news s Q) (F : Fr h₀ L h' mm) (NN : News h₀ L h' led) (m1 : (r, tupJ [Value.ref r2, Value.int f tb]) ∈ led) (m2 : (r2, tupJ [Value.int o t, Value.int k u, Value.int l v]) ∈ led) (R : RowF y o k l f) (h1 : f ≤ number) (h2 : number < f + l) (hs : ∀ p ∈ news, p ∈ led) : Q (.ref r) { s with heap := h', toks := tk' } := by
  refine hret t u v tb r r2 o k l f h' tk' R h1 h2 F (fun p hp => ?_)
  rcases List.mem_cons.mp hp with rfl | hp
  · exact NN _ m1
  rcases List.mem_cons.mp hp with rfl | hp
  · exact NN _ m2
  exact NN p (hs p hp)
section
local macro_rules | `(tactic| k_all) => `(tactic| ((rename Low _ _ => low9); intro p9 hp9 e9; (have q9 := low9.lt p9 hp9); (rw [e9] at q9); (refine absurd q9 (Nat.not_lt.mpr (leN ?_))); (try dsimp only); omega))
local macro_rules | `(tactic| k_lt $h:ident) => `(tactic| skip)
local macro_rules | `(tactic| k_ne) => `(tactic| first | exact ne_mem (by assumption) (by k_mem) | exact ne_mem' (by assumption) (by k_mem) | (refine neN ?_; (try dsimp only); omega))
local macro_rules | `(tactic| k_all) => `(tactic| exact all_ne (by assumption))
local macro_rules | `(tactic| walk_at "subscriptTail") => `(tactic| ((fail_if_success (with_reducible show wpAny _ _ (subscriptTail (PySem.Expr.Name _ _) _ _ _) _ _ _)); k_dflt (refine kba_turn (value' := PySem.Expr.Name (PySem.Str.ofString "_") ⟨0, 0, 0, 0⟩) (fun _ => rfl) ?_)))
local macro_rules | `(tactic| walk_at "assign Name") => `(tactic| (dsimp only; walk_at "assign Name"))
local macro_rules | `(tactic| walk_at "assignInOrder") => `(tactic| (dsimp only; walk_at "assignInOrder"))
local macro_rules | `(tactic| walk_at "newTuple") => `(tactic| (dsimp only; walk_at "newTuple"))
local macro_rules | `(tactic| walk_at "newList") => `(tactic| (dsimp only; walk_at "newList"))
local macro_rules | `(tactic| walk_at "setItem ref int") => `(tactic| (dsimp only; walk_at "setItem ref int"))
local macro_rules | `(tactic| walk_at "callWith ref") => `(tactic| (dsimp only; walk_at "callWith ref"))
local macro_rules | `(tactic| walk_at "eval Call") => `(tactic| ((with_reducible show wpAny _ _ (eval _ (envOfC _ _ _ _ _)) _ _ _); k_dflt (refine Call_ ?_)))
local macro_rules | `(tactic| walk_at "eval Call") => `(tactic| ((with_reducible show wpAny _ _ (eval _ (compEnvC _ _ _ _)) _ _ _); k_dflt (refine Call_ ?_)))
local macro_rules | `(tactic| walk_at "call ref") => `(tactic| (k_here; (with_reducible show wpAny _ _ (call (Value.ref 131) [Value.int _ _]) _ _ _); k_dflt (refine' Con.app (c_thirteen _ _) ?k1 ?k2 ?k3 ?k4 ?k5 ?kK ?kd ?ku ?_; (case k1 => k_asm); (case k2 => k_asm); (case k3 => k_asm); (case k4 => k_asm); (case k5 => k_asm); (case kK => first | exact rfl | assumption); (case kd => ktr_room); (case ku => ktr_units); intro t9 h9 tk9 F9 N9; (try dsimp only); (try k_fold))))
local macro_rules | `(tactic| walk_at "subscriptTail Name Constant ref int") => `(tactic| (k_here; (with_reducible show wpAny _ _ (subscriptTail (PySem.Expr.Name _ _) _ (Value.ref _) (Value.int _ _)) _ _ _); k_dflt (refine' r_tup ?hk ?N ?hm ?hj ?hx ?_ ?hs ?hg'; (case N => k_asm); (case hm => k_mem); (case hk => decide); (case hj => rfl); (case hx => rfl); (case hs => with_unfolding_all rfl); (case hg' => (intro _; with_unfolding_all rfl))); (try dsimp only)))
local macro_rules | `(tactic| walk_at "subscriptTail Subscript Constant ref int") => `(tactic| ((fail_if_success (with_reducible show wpAny _ _ (subscriptTail (PySem.Expr.Name _ _) _ _ _) _ _ _)); k_dflt (refine kba_turn (value' := PySem.Expr.Name (PySem.Str.ofString "_") ⟨0, 0, 0, 0⟩) (fun _ => rfl) ?_)))
local macro_rules | `(tactic| walk_at "ite") => `(tactic| (k_here; k_dflt (first | refine ite_pos (by with_reducible assumption) ?_ | refine ite_neg (ne_true_of_eq_false (by with_reducible assumption)) ?_)))
local macro_rules | `(tactic| walk_at "eval IfExp") => `(tactic| (k_here; (rename YY _ => yyX); k_dflt (first | refine if_8 yyX ?_ | refine if_9 yyX ?_)))
local macro_rules | `(tactic| walk_at "IfJoin") => `(tactic| ((first | refine ⟨(j8 _).1, (j8 _).2, fun t' tk' => ?_⟩ | refine ⟨(j9 _).1, (j9 _).2, fun t' tk' => ?_⟩); (try dsimp only); (try k_fold)))
local macro_rules | `(tactic| walk_at "exec While") => `(tactic| (k_here; (rename YY _ => yyX); k_dflt (refine' while_rows (xa := Str.ofString "at") (xf := Str.ofString "first") (B := fun _ => True) yyX ?F ?N (Str.ofString "rows") ?hr ?hm ?P (fun p hp => hp) ?ha ?hf ?C ?lo ?hi ?_ ?hl ?hE; (case F => k_asm); (case N => k_asm); (case hE => passes_own); (case ha => with_unfolding_all rfl); (case hf => with_unfolding_all rfl); (case hr => with_unfolding_all rfl); (case hm => k_mem); (case C => first | exact chain_l (by assumption) | exact chain_c (by assumption)); (case P => ((try simp only [List.cons_append, List.nil_append]); (repeat (first | exact .nil | refine .cons (by k_mem) True.intro ?_)))); (case lo => assumption); (case hi => (rw [dn7, ny_next]; omega)); (case hl => exact Nat.le_of_ble_eq_true rfl)); intro i' f' r' o' k' l' t' u' v' ta' tf' h' tk' hr' hi' R' hf' F' N'; (try dsimp only); (try k_fold)))
local macro_rules | `(tactic| walk_at "subscriptTail Name Name ref int") => `(tactic| (k_here; (with_reducible show wpAny _ _ (subscriptTail _ _ (Value.ref _) (Value.int (Nat.cast _) _)) _ _ _); k_dflt (refine' r_row (by assumption) (by assumption) ?N ?hm ?_ ?hs ?hg'; (case N => k_asm); (case hm => k_mem); (case hs => with_unfolding_all rfl); (case hg' => (intro _; with_unfolding_all rfl))); (try dsimp only)))
local macro_rules | `(tactic| walk_at "RowEnd") => `(tactic| ((rename Fr _ _ _ _ => FZ); (rename News _ _ _ _ => NZ); k_dflt (refine' RowEnd.intro FZ NZ ?qa ?qb ?qc ?qd ?qe; (case qa => omega); (case qb => exact ⟨_, by with_unfolding_all rfl⟩); (case qc => exact ⟨_, by with_unfolding_all rfl⟩); (case qd => (intro z h1 h2; first | rfl | (simp [h1, h2]; done) | (simp_all; done))); (case qe => exact (fun p hp => .tail _ hp)))))
local macro_rules | `(tactic| walk_at "WhlIf") => `(tactic| first | (refine WhlIf.yes (decide_eq_true (by omega)) ?_) | (refine WhlIf.no (decide_eq_false (by omega)) ?_) | (refine whl_split (fun hW9 => ?_) (fun hW9 => ?_)))
theorem c_month_l {y number : Int} (h1 : -951 ≤ y) (h2 : y < 7100000000) (hL : leapB y = true) (hlo : ny y + 2 ≤ number) (hhi : number ≤ ny y + 2 + yl y) (t t2 t3 t4 : Tok) : ConR w mean mg mb 150 3 [.int y t, .int (ny y + 2) t2, .int (yl y) t3, .int number t4] (RetMonth y number) := by
  unfold ConR
  k_fill
  intro dp un gd cn cs a ccd cl outer A₀ base h₀ L mm news s Q E B F X NN T hk hd hu hret
  w_on
  w_strict (
    refine wpAny_call ?_
    k_dflt cell_enter
    have yy : YY y := trivial
    k_steps
    all_goals (rename Fr _ _ _ _ => FZ)
    all_goals (rename News _ _ _ _ => NZ)
    all_goals (rename RowF _ _ _ _ _ => RZ)
    all_goals (dsimp only at NZ ⊢)
    all_goals exact end_month hret FZ NZ (by k_mem) (by k_mem) RZ (by omega) (by omega) (fun q hq => by simp [hq]))
theorem c_month_c {y number : Int} (h1 : -951 ≤ y) (h2 : y < 7100000000) (hL : leapB y = false) (hlo : ny y + 2 ≤ number) (hhi : number ≤ ny y + 2 + yl y) (t t2 t3 t4 : Tok) : ConR w mean mg mb 150 3 [.int y t, .int (ny y + 2) t2, .int (yl y) t3, .int number t4] (RetMonth y number) := by
  unfold ConR
  k_fill
  intro dp un gd cn cs a ccd cl outer A₀ base h₀ L mm news s Q E B F X NN T hk hd hu hret
  w_on
  w_strict (
    refine wpAny_call ?_
    k_dflt cell_enter
    have yy : YY y := trivial
    k_steps
    all_goals (rename Fr _ _ _ _ => FZ)
    all_goals (rename News _ _ _ _ => NZ)
    all_goals (rename RowF _ _ _ _ _ => RZ)
    all_goals (dsimp only at NZ ⊢)
    all_goals exact end_month hret FZ NZ (by k_mem) (by k_mem) RZ (by omega) (by omega) (fun q hq => by simp [hq]))
end
section
local macro_rules | `(tactic| walk_at "binaryOp Mult ref int") => `(tactic| (k_here; k_dflt (refine' r_mulN ?F ?N ?m ?lo ?hi ?_; (case F => k_asm); (case N => k_asm); (case m => k_mem); (case lo => omega); (case hi => omega)); intro D' h' F' N' l1; (try k_lt l1); (try k_sweep)))
local macro_rules | `(tactic| walk_at "binaryOp Mult int ref") => `(tactic| (k_here; k_dflt (refine' r_mulNr ?F ?N ?m ?lo ?hi ?_; (case F => k_asm); (case N => k_asm); (case m => k_mem); (case lo => omega); (case hi => omega)); intro D' h' F' N' l1; (try k_lt l1); (try k_sweep)))
local macro_rules | `(tactic| walk_at "binaryOp Add ref ref") => `(tactic| (k_here; k_dflt (refine' r_addL ?F ?N ?m ?m2 ?z ?_; (case F => k_asm); (case N => k_asm); (case m => k_mem); (case m2 => k_mem); (case z => (have hLz := IntsAre.length (by assumption)); (simp only [List.length_append, List.length_replicate, rangeKs_length] at *); omega)); intro D' h' F' N' l1; (try k_lt l1); (try k_sweep)))
local macro_rules | `(tactic| k_all) => `(tactic| ((rename Low _ _ => low9); intro p9 hp9 e9; (have q9 := low9.lt p9 hp9); (rw [e9] at q9); (refine absurd q9 (Nat.not_lt.mpr (leN ?_))); (try dsimp only); omega))
local macro_rules | `(tactic| walk_at "subscriptTail Name Slice ref ref") => `(tactic| (k_here; k_dflt (refine' kms_slice_lit ?F ?N ?l ?p ?q ?e ?_ ?s ?t ?z; (case F => k_asm); (case N => k_asm); (case l => exact News.isList (by k_asm) (by k_mem)); (case p => exact .int _ _); (case q => exact .int _ _); (case e => rfl); (case s => with_unfolding_all rfl); (case t => kmk_pure); (case z => (simp only [List.size_toArray, List.length_append, List.length_replicate, sizeLine_eq] at *; omega))); intro D' h' F' N' l1; (try k_lt l1); (try k_sweep)))
local macro_rules | `(tactic| walk_at "eval ListComp") => `(tactic| (k_here; lcf_look; k_dflt (refine ListComp_W (F₀ := by k_asm) (by with_unfolding_all rfl) (by decide) (by rfl) (by decide) (by rfl) ?_)))
local macro_rules | `(tactic| k_lt $h:ident) => `(tactic| skip)
local macro_rules | `(tactic| k_ne) => `(tactic| first | exact ne_mem (by assumption) (by k_mem) | exact ne_mem' (by assumption) (by k_mem) | (refine neN ?_; (try dsimp only); omega))
local macro_rules | `(tactic| k_all) => `(tactic| exact all_ne (by assumption))
local macro_rules | `(tactic| walk_at "subscriptTail") => `(tactic| ((fail_if_success (with_reducible show wpAny _ _ (subscriptTail (PySem.Expr.Name _ _) _ _ _) _ _ _)); k_dflt (refine kba_turn (value' := PySem.Expr.Name (PySem.Str.ofString "_") ⟨0, 0, 0, 0⟩) (fun _ => rfl) ?_)))
local macro_rules | `(tactic| walk_at "assign Name") => `(tactic| (dsimp only; walk_at "assign Name"))
local macro_rules | `(tactic| walk_at "assignInOrder") => `(tactic| (dsimp only; walk_at "assignInOrder"))
local macro_rules | `(tactic| walk_at "newTuple") => `(tactic| (dsimp only; walk_at "newTuple"))
local macro_rules | `(tactic| walk_at "newList") => `(tactic| (dsimp only; walk_at "newList"))
local macro_rules | `(tactic| walk_at "setItem ref int") => `(tactic| (dsimp only; walk_at "setItem ref int"))
local macro_rules | `(tactic| walk_at "callWith ref") => `(tactic| (dsimp only; walk_at "callWith ref"))
local macro_rules | `(tactic| walk_at "eval Call") => `(tactic| ((with_reducible show wpAny _ _ (eval _ (envOfC _ _ _ _ _)) _ _ _); k_dflt (refine Call_ ?_)))
local macro_rules | `(tactic| walk_at "eval Call") => `(tactic| ((with_reducible show wpAny _ _ (eval _ (compEnvC _ _ _ _)) _ _ _); k_dflt (refine Call_ ?_)))
local macro_rules | `(tactic| k_ne) => `(tactic| first | assumption | exact Ne.symm (by assumption))
local macro_rules | `(tactic| k_all) => `(tactic| assumption)
local macro_rules | `(tactic| walk_at "binaryOp Add ref ref") => `(tactic| (k_here; k_dflt (refine' r_addL ?F ?N ?m ?m2 ?z ?_; (case F => k_asm); (case N => k_asm); (case m => k_mem); (case m2 => k_mem); (case z => ((try simp only [List.length_append, List.length_replicate, List.length_cons, List.length_nil]); omega))); intro D' h' F' N' l1; (try k_lt l1); (try k_sweep)))
local macro_rules | `(tactic| walk_at "pyIter ref") => `(tactic| ((with_reducible show wpAny _ _ (pyIter (Value.ref _)) (fun it s₂ => LoopAtV _ _ _ _ _ _ _ _ _ it s₂) _ _); (rename MM _ => mmX); (rename Fr _ _ _ _ => lF'); (rename News _ _ _ _ => lN'); (rename IsRange _ _ _ _ _ _ _ _ => rgX); k_dflt (refine' iter_leaf3 mmX ?h7 (by rfl) (by first | exact rgX | assumption) ?sm (by exact rangeSize_nat _ _) ?ml lF' lN' (wk := Str.ofString "week") (Str.ofString "weeks") ?hW ?hw ?hmK ?hmW ?hKW ?hoff ?hb ?hcar ?qt ?qd; (case hW => with_unfolding_all rfl); (case hw => with_unfolding_all rfl); (case hmK => k_mem); (case hmW => k_mem); (case hcar => exact car_rep _); (case h7 => omega); (case sm => first | exact small_one (by l_bnd) (by l_bnd) (by l_bnd) (by l_bnd) | exact small_one (by decide) (by decide) (by omega) (by omega)); (case ml => omega); (case hKW => k_ne); (case hoff => exact all_ne (by assumption)); (case hb => exact (fun p hp => by simp [hp]))); (try clear lF' lN'); (case' qt => (intro i' k' ws' n1' rs' n2' led' own' t' h' tk' hl' hr' hi' hk' ho' F' N')); (case' qd => (intro k' ws' n1' rs' n2' led' u' h' tk' hl' hr' hk' ho' hb' hc' B' F' N')); (all_goals (try dsimp only)); (all_goals (try k_fold))))
local macro_rules | `(tactic| walk_at "call builtin:len") => `(tactic| (k_here; k_dflt ((first | (refine' r_lenS ?N ?hm ?hz ?_; (case N => k_asm); (case hm => k_mem)) | (refine' r_len0 ?N ?hm ?hz ?_; (case N => k_asm); (case hm => k_mem))); (case hz => omega)); intro t' tk'; (try dsimp only)))
local macro_rules | `(tactic| walk_at "call builtin:list.append") => `(tactic| ((with_reducible show wpAny _ _ (call _ (_ ++ [_])) _ _ _); dsimp only; simp only [List.cons_append, List.nil_append]; walk_at "call builtin:list.append"))
local macro_rules | `(tactic| walk_at "LfPost") => `(tactic| ((rename Fr _ _ _ _ => FZ); (rename News _ _ _ _ => NZ); k_dflt (first | (refine' LfPost.keep FZ NZ ?ql ?qw ?qz ?qk ?qo ?q1 ?q2 ?q3; (case ql => omega); (case qw => with_unfolding_all rfl); (case qz => (intro z h1 h2; first | rfl | (simp [h1, h2]; done) | (simp_all; done))); (case q1 => k_mem); (case q2 => k_mem); (case qk => exact ne_mem (by assumption) (by k_mem)); (case qo => (intro p9 hp9; refine Nat.ne_of_lt ?_; apply_assumption; simp [hp9])); (case q3 => (intro p9 hp9; simp only [List.mem_cons]; simp [hp9]))) | (refine' LfPost.full FZ NZ ?ql ?qw ?qz ?qk ?qo ?q1 ?q2 ?qe ?q3 ?qk2 ?qo2 ?q4; (case ql => omega); (case qw => with_unfolding_all rfl); (case qz => (intro z h1 h2; first | rfl | (simp [h1, h2]; done) | (simp_all; done))); (case q1 => k_mem); (case q2 => k_mem); (case q4 => k_mem); (case qe => simp); (case qk => exact ne_mem (by assumption) (by k_mem)); (case qk2 => exact ne_mem (by assumption) (by k_mem)); (case qo => (intro p9 hp9; refine Nat.ne_of_lt ?_; apply_assumption; simp [hp9])); (case qo2 => (intro p9 hp9; refine Nat.ne_of_lt ?_; apply_assumption; simp [hp9])); (case q3 => (intro p9 hp9; simp only [List.mem_cons]; simp [hp9]))))))
local macro_rules | `(tactic| walk_at "LfNone") => `(tactic| skip)
local macro_rules | `(tactic| walk_at "LfNone2") => `(tactic| skip)
theorem c_leaf3 {f ml : Int} (h3 : ml = 29 ∨ ml = 30) (t t' : Tok) : ConR w mean mg mb 157 3 [.int f t, .int ml t'] (RetCal ((f - 347997) % 7).toNat ml.toNat) := by
  unfold ConR
  k_fill
  intro dp un gd cn cs a ccd cl outer A₀ base h₀ L mm news s Q E B F X NN T hk hd hu hret
  w_on
  w_strict (
    refine wpAny_call ?_
    k_dflt cell_enter
    have mm3 : MM ml.toNat := trivial
    k_steps
    all_goals (rename Fr _ _ _ _ => FZ)
    all_goals (rename News _ _ _ _ => NZ)
    all_goals (rename CarriedAll _ _ => CZ)
    all_goals (rename BearsAll _ _ _ => BZ)
    all_goals (rename (∀ p : Addr × Obj, p ∈ news → p ∈ _) => hbZ)
    all_goals (refine hret _ _ _ _ FZ (fun p hp => NZ p ((List.mem_append.mp hp).elim (fun q => by simp [hbZ p q]) id)) ?_)
    · rename (List.isEmpty _ = true) => hE
      exact leaf_none (by omega) (by omega) CZ (BZ.mono fun p hp => by simp [hp]) (List.length_eq_zero_iff.mpr (List.isEmpty_iff.mp hE)) (by k_mem)
    · rename (List.isEmpty _ = false) => hE
      refine' leaf_some (by omega) (by omega) CZ (BZ.mono fun p hp => by simp [hp]) ?q0 ?q1 ?q2 ?q3
      case q1 => k_mem
      case q3 => k_mem
      case q2 => simp
      case q0 =>
        intro h
        have := List.isEmpty_iff.mpr (List.length_eq_zero_iff.mp h)
        rw [hE] at this
        cases this)
end
theorem ConR.mono {f : Addr} {d : Nat} {vs : List Value} {R R' : RetP} (C : ConR w mean mg mb f d vs R) (h : ∀ h₀ L m news s Q, R' h₀ L m news s Q → R h₀ L m news s Q) : ConR w mean mg mb f d vs R' :=
  fun _ _ _ _ _ _ _ _ _ _ _ _ _ _ _ _ _ _ k1 k2 k3 k4 k5 k6 k7 k8 r => C _ _ _ _ _ _ _ _ _ _ _ _ _ _ _ _ _ _ k1 k2 k3 k4 k5 k6 k7 k8 (h _ _ _ _ _ _ r)
abbrev RetYearF (y : Int) : RetP := fun h₀ L mm news s Q => ∀ (t1 t2 : Tok) (r : Addr) (h' : Heap) (tk' : Nat), YearF y → Fr h₀ L h' mm → News h₀ L h' ((r, tupJ [Value.int (ny y + 2) t1, Value.int (yl y) t2]) :: news) → Q (.ref r) { s with heap := h', toks := tk' }
theorem c_yearF {y : Int} (h1 : -951 ≤ y) (h2 : y < 7100000000) (t : Tok) : ConR w mean mg mb 143 10 [.int y t] (RetYearF y) :=
  (c_year h1 h2 t).mono fun _ _ _ _ _ _ h t1 t2 r h' tk' => h t1 t2 r h' tk' (yearF h1 h2)
abbrev RetMonF (y number : Int) : RetP := fun h₀ L mm news s Q => ∀ (t u v tb : Tok) (r r2 : Addr) (o k l f : Int) (h' : Heap) (tk' : Nat), MonF y o k l f number → Fr h₀ L h' mm → News h₀ L h' ((r, tupJ [Value.ref r2, Value.int f tb]) :: (r2, tupJ [Value.int o t, Value.int k u, Value.int l v]) :: news) → Q (.ref r) { s with heap := h', toks := tk' }
theorem c_monthF {y number : Int} (h1 : -951 ≤ y) (h2 : y < 1000000) (hlo : ny y + 2 ≤ number) (hhi : number ≤ ny y + 2 + yl y) (t t2 t3 t4 : Tok) : ConR w mean mg mb 150 3 [.int y t, .int (ny y + 2) t2, .int (yl y) t3, .int number t4] (RetMonF y number) := by
  have key : ConR w mean mg mb 150 3 [.int y t, .int (ny y + 2) t2, .int (yl y) t3, .int number t4] (RetMonth y number) := by
    cases hl : leapB y with
    | true => exact c_month_l h1 (by omega) hl hlo hhi t t2 t3 t4
    | false => exact c_month_c h1 (by omega) hl hlo hhi t t2 t3 t4
  exact key.mono fun _ _ _ _ _ _ h t u v tb r r2 o k l f h' tk' R d1 d2 => h t u v tb r r2 o k l f h' tk' (monF h1 h2 R d1 d2)
local macro_rules | `(tactic| walk_at "subscriptTail") => `(tactic| ((fail_if_success (with_reducible show wpAny _ _ (subscriptTail (PySem.Expr.Name _ _) _ _ _) _ _ _)); k_dflt (refine kba_turn (value' := PySem.Expr.Name (PySem.Str.ofString "_") ⟨0, 0, 0, 0⟩) (fun _ => rfl) ?_)))
local macro_rules | `(tactic| walk_at "assign Name") => `(tactic| (dsimp only; walk_at "assign Name"))
local macro_rules | `(tactic| walk_at "assignInOrder") => `(tactic| (dsimp only; walk_at "assignInOrder"))
local macro_rules | `(tactic| walk_at "newTuple") => `(tactic| (dsimp only; walk_at "newTuple"))
local macro_rules | `(tactic| walk_at "newList") => `(tactic| (dsimp only; walk_at "newList"))
local macro_rules | `(tactic| walk_at "setItem ref int") => `(tactic| (dsimp only; walk_at "setItem ref int"))
local macro_rules | `(tactic| walk_at "callWith ref") => `(tactic| (dsimp only; walk_at "callWith ref"))
local macro_rules | `(tactic| walk_at "subscriptTail Name Constant ref int") => `(tactic| (k_here; (with_reducible show wpAny _ _ (subscriptTail (PySem.Expr.Name _ _) _ (Value.ref _) (Value.int _ _)) _ _ _); k_dflt (refine' r_tup ?hk ?N ?hm ?hj ?hx ?_ ?hs ?hg'; (case N => k_asm); (case hm => k_mem); (case hk => decide); (case hj => rfl); (case hx => rfl); (case hs => with_unfolding_all rfl); (case hg' => (intro _; with_unfolding_all rfl))); (try dsimp only)))
local macro_rules | `(tactic| walk_at "subscriptTail Subscript Constant ref int") => `(tactic| ((fail_if_success (with_reducible show wpAny _ _ (subscriptTail (PySem.Expr.Name _ _) _ _ _) _ _ _)); k_dflt (refine kba_turn (value' := PySem.Expr.Name (PySem.Str.ofString "_") ⟨0, 0, 0, 0⟩) (fun _ => rfl) ?_)))
local macro_rules | `(tactic| walk_at "call ref") => `(tactic| (k_here; (with_reducible show wpAny _ _ (call (Value.ref 143) [Value.int _ _]) _ _ _); k_dflt (refine' ConR.app (c_yearF ?ha ?hb _) ?k1 ?k2 ?k3 ?k4 ?k5 ?kK ?kd ?ku ?_; (case k1 => k_asm); (case k2 => k_asm); (case k3 => k_asm); (case k4 => k_asm); (case k5 => k_asm); (case kK => first | exact rfl | assumption); (case kd => ktr_room); (case ku => ktr_units); (case ha => omega); (case hb => omega); intro t1 t2 r9 h9 tk9 yf9 F9 N9; (obtain ⟨⟨yf1, yf2⟩, yf3⟩ := yf9); (try dsimp only); (try simp only [List.nil_append, List.cons_append] at N9); (try k_fold))))
local macro_rules | `(tactic| walk_at "call ref") => `(tactic| (k_here; (with_reducible show wpAny _ _ (call (Value.ref 150) [Value.int _ _, Value.int _ _, Value.int _ _, Value.int _ _]) _ _ _); k_dflt (refine' ConR.app (c_monthF ?ha ?hb ?hc ?he _ _ _ _) ?k1 ?k2 ?k3 ?k4 ?k5 ?kK ?kd ?ku ?_; (case k1 => k_asm); (case k2 => k_asm); (case k3 => k_asm); (case k4 => k_asm); (case k5 => k_asm); (case kK => first | exact rfl | assumption); (case kd => ktr_room); (case ku => ktr_units); (case ha => omega); (case hb => omega); (case hc => omega); (case he => omega); intro t1 u1 v1 b1 r9 r29 o9 k9 l9 f9 h9 tk9 mf9 F9 N9; (obtain ⟨⟨mf1, mf2⟩, ⟨mf3, mf4⟩, mf5, mf6, ⟨mf7, mf8⟩, mf9, mfa, ⟨mfb, mfc⟩, mfd, mfe⟩ := mf9); (try dsimp only); (try simp only [List.nil_append, List.cons_append] at N9); (try k_fold))))
local macro_rules | `(tactic| walk_at "call ref") => `(tactic| (k_here; (with_reducible show wpAny _ _ (call (Value.ref 157) [Value.int _ _, Value.int _ _]) _ _ _); k_dflt (refine' ConR.app (c_leaf3 ?ha _ _) ?k1 ?k2 ?k3 ?k4 ?k5 ?kK ?kd ?ku ?_; (case k1 => k_asm); (case k2 => k_asm); (case k3 => k_asm); (case k4 => k_asm); (case k5 => k_asm); (case kK => first | exact rfl | assumption); (case kd => ktr_room); (case ku => ktr_units); (case ha => omega); intro r9 h9 tk9 all9 F9 N9 B9; (try dsimp only); (try simp only [List.nil_append, List.cons_append] at N9); (try k_fold))))
local macro_rules | `(tactic| walk_at "eval Call") => `(tactic| ((with_reducible show wpAny _ _ (eval _ (envOfC _ _ _ _ _)) _ _ _); k_dflt (refine Call_ ?_)))
local macro_rules | `(tactic| walk_at "eval Call") => `(tactic| ((with_reducible show wpAny _ _ (eval _ (compEnvC _ _ _ _)) _ _ _); k_dflt (refine Call_ ?_)))
local macro_rules | `(tactic| walk_at "eval BinOp") => `(tactic| (k_here; (with_reducible show wpAny _ _ (eval (PySem.Expr.BinOp (PySem.Expr.BinOp (PySem.Expr.BinOp (PySem.Expr.IfExp _ _ _ _) _ _ _) _ _ _) _ _ _) _) _ _ _); (fail_if_success (with_reducible show wpAny _ _ _ (IntAt _ _) _ _)); refine int_year ?_ (fun n' t' tk' yy' hn1 hn2 => ?_); (all_goals (try dsimp only))))
local macro_rules | `(tactic| walk_at "eval IfExp") => `(tactic| (k_here; (fail_if_success (with_reducible show wpAny _ _ _ (IntAt _ _) _ _)); (first | ((with_reducible show wpAny _ _ (eval (PySem.Expr.IfExp _ _ (PySem.Expr.Name _ _) _) _) _ _ _); (rename YY _ => yyX); refine int_days yyX ?_ (fun n' t' tk' hn1 hn2 => ?_)) | ((with_reducible show wpAny _ _ (eval (PySem.Expr.IfExp _ (PySem.Expr.BinOp _ _ _ _) (PySem.Expr.Constant _ _ _) _) _) _ _ _); refine int_past ?_ (fun n' t' tk' hn1 hn2 => ?_))); (all_goals (try dsimp only))))
local macro_rules | `(tactic| walk_at "IntAt") => `(tactic| (exact ⟨_, _, _, rfl, ⟨by omega, by omega⟩, rfl⟩))
local macro_rules | `(tactic| walk_at "binaryOp Mod int int") => `(tactic| (first | ((with_reducible refine r_mod ?ha ?_); (case ha => decide); (try dsimp only)) | ((with_reducible refine r_modv ?ha ?_); (case ha => omega); intro kM hM1 hM2; (try dsimp only))))
local macro_rules | `(tactic| walk_at "compareOp NotEq ref ref") => `(tactic| (k_here; (rename Bears _ _ (calD _ _) => bb2); k_dflt (refine' r_ne_leaf ?N ?B1 ?S1 bb2 ?S2 ?e1 ?e2 ?h1 ?h2 ?hu ?_; (case N => k_asm); (case B1 => assumption); (case S1 => exact (fun p9 hp9 => by simp [hp9])); (case S2 => exact (fun p9 hp9 => by simp [hp9])); (case hu => exact Nat.le_of_ble_eq_true rfl); (case e1 => (congr 1; omega)); (case e2 => (congr 1; first | omega | (symm; assumption) | assumption)); (case h1 => omega); (case h2 => omega))))
local macro_rules | `(tactic| walk_at "ite") => `(tactic| (k_here; k_dflt (first | refine ite_neg (ne_true_of_eq_false (by with_reducible assumption)) ?_ | refine ite_neg (by ((try simp only [Int.reduceBEq, beq_self_eq_true, not_true_eq_false, not_false_eq_true, bne_iff_ne, beq_iff_eq, decide_eq_true_eq, decide_eq_false_iff_not, ne_eq, Decidable.not_not, Bool.not_eq_true', Bool.not_eq_false', Bool.or_eq_true, Bool.or_eq_false_iff]); first | done | omega)) ?_ | refine ite_pos (by ((try simp only [Int.reduceBEq, beq_self_eq_true, not_true_eq_false, not_false_eq_true, bne_iff_ne, beq_iff_eq, decide_eq_true_eq, decide_eq_false_iff_not, ne_eq, Decidable.not_not, Bool.not_eq_true', Bool.not_eq_false', Bool.or_eq_true, Bool.or_eq_false_iff]); first | done | omega)) ?_)))
theorem walked : PySem.Challenge.rw_ad5010_03.Holds := Mine.hd (by
  k_go0
  (all_goals try k_fold)
  k_steps)
end
end Mine
theorem PySem.Challenge.cw_ad5010_03_holds : PySem.Challenge.rw_ad5010_03.Holds :=
  Mine.walked
