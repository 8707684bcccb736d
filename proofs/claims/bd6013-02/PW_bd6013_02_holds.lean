import PyProof.Rows.All
import Wide.All
import OpenK.AllK
import Wide.FinOn
import PySem.Challenge.RW_bd6013_02
set_option Elab.async false
set_option maxRecDepth 100000
namespace Mine
open PySem PySem.W PyProof.Rows in
set_option maxHeartbeats 8000000 in
open_top hd2 for PySem.Challenge.rw_bd6013_02
end Mine
section
namespace Mine
/-! the plain functions -/
@[irreducible] def leapB (y : Int) : Bool := decide ((y * 7 + 1) % 19 < 7)
@[irreducible] def mo (y : Int) : Int := (235 * y - 234) / 19
@[irreducible] def dd (y : Int) : Int := mo y * 29 + (12084 + 13753 * mo y) / 25920
@[irreducible] def d1 (y : Int) : Int := if 3 * (dd y + 1) % 7 < 3 then dd y + 1 else dd y
@[irreducible] def d2 (y : Int) : Int := if d1 (y + 1) - d1 y = 356 then 2 else if d1 y - d1 (y - 1) = 382 then 1 else 0
@[irreducible] def ny (y : Int) : Int := d1 y + d2 y
end Mine
end

section
set_option exponentiation.threshold 1100
namespace Mine
open PySem PySem.Float64

/-- half-integers as doubles: k halves -/
@[irreducible] def hf (k : Int) : UInt64 := ofFrac (decide (k < 0)) k.natAbs 2

theorem pow1073_pos : 0 < (2 : Nat) ^ 1073 := Nat.two_pow_pos _

theorem V_exact (n j : Nat) (hn : n < 2 ^ 53) (hj : j ≤ 1074) : ∃ t, t < infMag ∧ V t = n * 2 ^ j := by
  by_cases h0 : n = 0
  · subst h0
    exact ⟨0, by decide, by rw [V_zero]; simp⟩
  · have hl : 2 ^ n.log2 ≤ n := Nat.log2_self_le h0
    have hl2 : n < 2 ^ (n.log2 + 1) := Nat.lt_log2_self
    have hlog : n.log2 ≤ 52 := by
      have := (Nat.log2_lt h0).2 hn
      omega
    by_cases hc : 52 - n.log2 ≤ j
    · have hq1 : 2 ^ 52 ≤ n * 2 ^ (52 - n.log2) := by
        have e : (2:Nat) ^ 52 = 2 ^ n.log2 * 2 ^ (52 - n.log2) := by rw [← Nat.pow_add]; congr 1; omega
        rw [e]; exact Nat.mul_le_mul_right _ hl
      have hq2 : n * 2 ^ (52 - n.log2) < 2 ^ 53 := by
        have e : (2:Nat) ^ 53 = 2 ^ (n.log2 + 1) * 2 ^ (52 - n.log2) := by rw [← Nat.pow_add]; congr 1; omega
        rw [e]; exact Nat.mul_lt_mul_of_pos_right hl2 (Nat.two_pow_pos _)
      refine ⟨(j - (52 - n.log2)) * 2 ^ 52 + n * 2 ^ (52 - n.log2), ?_, ?_⟩
      · unfold infMag; omega
      · rw [V_at (by omega) (.inl hq1), Nat.mul_assoc, ← Nat.pow_add]
        congr 2; omega
    · have hq2 : n * 2 ^ j < 2 ^ 53 := by
        have e : (2:Nat) ^ 53 = 2 ^ (n.log2 + 1) * 2 ^ (52 - n.log2) := by rw [← Nat.pow_add]; congr 1; omega
        rw [e]
        calc n * 2 ^ j ≤ n * 2 ^ (52 - n.log2) := Nat.mul_le_mul_left _ (Nat.pow_le_pow_right (by decide) (by omega))
          _ < _ := Nat.mul_lt_mul_of_pos_right hl2 (Nat.two_pow_pos _)
      have := V_at (k := 0) (q := n * 2 ^ j) (by omega) (.inr rfl)
      refine ⟨0 * 2 ^ 52 + n * 2 ^ j, ?_, by rw [this]; simp⟩
      unfold infMag; omega

theorem V_inj {t t' : Nat} (h : V t = V t') : t = t' := by
  rcases Nat.lt_trichotomy t t' with h1 | h1 | h1
  · have := V_lt h1; omega
  · exact h1
  · have := V_lt h1; omega

theorem not_over {n : Nat} (hn : n < 2 ^ 53) : ¬ 1 * ((2 ^ 54 - 1) * 2 ^ 2045) ≤ 2 * (n * 2 ^ 1073) := by
  intro h
  have e : (2:Nat) ^ 2045 = 2 ^ 1073 * 2 ^ 972 := by rw [← Nat.pow_add]
  rw [e] at h
  have hp := pow1073_pos
  have h2 : 1 ≤ (2:Nat) ^ 972 := Nat.two_pow_pos _
  generalize (2:Nat) ^ 1073 = P at *
  generalize (2:Nat) ^ 972 = R at *
  have h3 : (2 ^ 54 - 1) * (P * 1) ≤ (2 ^ 54 - 1) * (P * R) := Nat.mul_le_mul_left _ (Nat.mul_le_mul_left _ h2)
  have h4 : n * P ≤ (2 ^ 53 - 1) * P := Nat.mul_le_mul_right _ (by omega)
  omega

theorem right_exact {r : UInt64} {neg : Bool} {n t₀ : Nat} (hn : n < 2 ^ 53) (hV : V t₀ = n * 2 ^ 1073) (h : Right r neg (n * 2 ^ 1073) 1) : r = pack neg t₀ ∧ t₀ < infMag := by
  obtain ⟨t, rfl, hle, hov, hnear⟩ := h
  have hlt : t < infMag := by
    rcases Nat.lt_or_ge t infMag with h | h
    · exact h
    · exact absurd (hov.1 (by omega)) (not_over hn)
  have h1 := (hnear hlt t₀).1
  rw [hV] at h1
  unfold dist at h1
  have : V t = V t₀ := by rw [hV]; omega
  have := V_inj this
  subst this
  exact ⟨rfl, hlt⟩

theorem hf_right (k : Int) : Right (hf k) (decide (k < 0)) (k.natAbs * 2 ^ 1073) 1 := by
  unfold hf
  exact ofFrac_right (by decide) (by rw [Nat.mul_one, Nat.mul_assoc, ← Nat.pow_succ]) (by decide)

theorem hf_of_right {r : UInt64} {k : Int} (hk : k.natAbs < 2 ^ 53) (h : Right r (decide (k < 0)) (k.natAbs * 2 ^ 1073) 1) : r = hf k := by
  obtain ⟨t, _, hV⟩ := V_exact k.natAbs 1073 hk (by decide)
  rw [(right_exact hk hV h).1, (right_exact hk hV (hf_right k)).1]

theorem sgn_decide (k : Int) : sgn (decide (k < 0)) k.natAbs = k := by
  unfold sgn
  split
  · rename_i h; simp at h; omega
  · rename_i h; simp at h; omega

theorem hf_decode {k : Int} (hk : k.natAbs < 2 ^ 53) : ∃ m e, decode (hf k) = .fin (decide (k < 0)) m e ∧ val (hf k) = k * 2 ^ 1073 ∧ m * 2 ^ (e + 1074).toNat = k.natAbs * 2 ^ 1073 := by
  obtain ⟨t, _, hV⟩ := V_exact k.natAbs 1073 hk (by decide)
  obtain ⟨hx, hlt⟩ := right_exact hk hV (hf_right k)
  obtain ⟨m, e, hd, hm⟩ := decode_pack (decide (k < 0)) hlt
  rw [← hx] at hd
  refine ⟨m, e, hd, ?_, by rw [hm, hV]⟩
  rw [val_eq hd, hm, hV, sgn_mul, sgn_decide]
  simp

theorem ofInt_hf {i : Int} (h : (2 * i).natAbs < 2 ^ 53) : ofInt i = hf (2 * i) := by
  refine hf_of_right h ?_
  have := ofInt_right i
  have e1 : decide (2 * i < 0) = decide (i < 0) := decide_eq_decide.mpr (by omega)
  have e2 : (2 * i).natAbs * 2 ^ 1073 = i.natAbs * 2 ^ 1074 := by
    rw [show (2:Nat) ^ 1074 = 2 ^ 1073 * 2 from Nat.pow_succ .., Int.natAbs_mul]
    generalize (2:Nat) ^ 1073 = P
    have e5 : Int.natAbs 2 = 2 := rfl
    rw [e5]
    ac_rfl
  rw [e1, e2]; exact this

theorem mulP_neg (c : Int) : decide (c * 2 ^ 1073 < 0) = decide (c < 0) := by
  have hp : (0 : Int) < 2 ^ 1073 := Int.pow_pos (by decide)
  apply decide_eq_decide.mpr
  constructor
  · intro h
    by_cases h2 : c < 0
    · exact h2
    · have := Int.mul_nonneg (show 0 ≤ c by omega) (Int.le_of_lt hp)
      omega
  · intro h; exact Int.mul_neg_of_neg_of_pos h hp
theorem mulP_abs (c : Int) : (c * 2 ^ 1073).natAbs = c.natAbs * 2 ^ 1073 := by
  rw [Int.natAbs_mul, Int.natAbs_pow]; rfl
theorem mulP_ne {c : Int} (h : c ≠ 0) : c * 2 ^ 1073 ≠ 0 := by
  have hp : (2 : Int) ^ 1073 ≠ 0 := Int.ne_of_gt (Int.pow_pos (by decide))
  exact Int.mul_ne_zero h hp

theorem add_hf {a b : Int} (ha : a.natAbs < 2 ^ 53) (hb : b.natAbs < 2 ^ 53) (hc : (a + b).natAbs < 2 ^ 53) (h0 : a + b ≠ 0) : add (hf a) (hf b) = hf (a + b) := by
  obtain ⟨m, e, hd, hv, _⟩ := hf_decode ha
  obtain ⟨k, f, hd', hv', _⟩ := hf_decode hb
  have h := (add_right hd hd').2
  rw [hv, hv', ← Int.add_mul, mulP_neg, mulP_abs] at h
  exact hf_of_right hc (h (mulP_ne h0))
theorem sub_hf {a b : Int} (ha : a.natAbs < 2 ^ 53) (hb : b.natAbs < 2 ^ 53) (hc : (a - b).natAbs < 2 ^ 53) (h0 : a - b ≠ 0) : sub (hf a) (hf b) = hf (a - b) := by
  obtain ⟨m, e, hd, hv, _⟩ := hf_decode ha
  obtain ⟨k, f, hd', hv', _⟩ := hf_decode hb
  have h := (sub_right hd hd').2
  rw [hv, hv', ← Int.sub_mul, mulP_neg, mulP_abs] at h
  exact hf_of_right hc (h (mulP_ne h0))
theorem scale_le (R Z W : Nat) (h : 0 < R) : R * Z ≤ 2 * (R * W) ↔ 1 * Z ≤ 2 * W := by
  rw [Nat.one_mul, show 2 * (R * W) = R * (2 * W) by ac_rfl]
  exact Nat.mul_le_mul_left_iff h
theorem mul2_hf {a : Int} (ha : a.natAbs < 2 ^ 50) : mul (ofInt 2) (hf a) = hf (2 * a) := by
  obtain ⟨m, e, hd, hv, _⟩ := hf_decode (k := a) (by omega)
  obtain ⟨k, f, hd', hv', _⟩ := hf_decode (k := 4) (by decide)
  have e2 : ofInt 2 = hf 4 := ofInt_hf (i := 2) (by decide)
  rw [e2]
  have h := mul_right hd' hd
  rw [hv, hv', mulP_abs, mulP_abs] at h
  refine hf_of_right (by omega) ?_
  obtain ⟨t, h1, h2, h3, h4⟩ := h
  have hp := Nat.two_pow_pos 1073
  have e3 : decide (2 * a < 0) = (decide ((4:Int) < 0) != decide (a < 0)) := by
    rw [show decide ((4:Int) < 0) = false by decide, Bool.false_bne]
    exact decide_eq_decide.mpr (by omega)
  rw [e3]
  have eA : Int.natAbs 4 * 2 ^ 1073 * (a.natAbs * 2 ^ 1073) = 2 ^ 1074 * ((2 * a).natAbs * 2 ^ 1073) := by
    rw [show (2:Nat) ^ 1074 = 2 ^ 1073 * 2 from Nat.pow_succ .., Int.natAbs_mul]
    generalize (2:Nat) ^ 1073 = P
    have e4 : Int.natAbs 4 = 2 * 2 := rfl
    have e5 : Int.natAbs 2 = 2 := rfl
    rw [e4, e5]
    ac_rfl
  rw [eA] at h3 h4
  have hP : 0 < (2:Nat) ^ 1074 := Nat.two_pow_pos _
  refine ⟨t, h1, h2, ?_, ?_⟩
  · exact h3.trans (scale_le _ _ _ hP)
  · intro h t'
    have := h4 h t'
    rw [dist_mul, dist_mul] at this
    refine ⟨?_, ?_⟩
    · rw [Nat.one_mul, Nat.one_mul]
      exact Nat.le_of_mul_le_mul_left this.1 hP
    · intro hne he
      rw [Nat.one_mul, Nat.one_mul] at he
      exact this.2 hne (by rw [he])
theorem cmpInt_hf {k i : Int} (hk : k.natAbs < 2 ^ 53) : cmpInt (hf k) i = some (compare k (2 * i)) := by
  obtain ⟨m, e, hd, hv, _⟩ := hf_decode hk
  rw [cmpInt_right hd, hv]
  have hp : (0 : Int) < 2 ^ 1073 := Int.pow_pos (by decide)
  have e1 : i * 2 ^ 1074 = 2 * i * 2 ^ 1073 := by
    rw [Int.pow_succ]; ac_rfl
  rw [e1]
  generalize (2 : Int) ^ 1073 = P at *
  congr 1
  rcases Int.lt_trichotomy k (2 * i) with h | h | h
  · rw [Int.compare_eq_lt.mpr h, Int.compare_eq_lt.mpr (Int.mul_lt_mul_of_pos_right h hp)]
  · rw [h]; simp
  · rw [Int.compare_eq_gt.mpr h, Int.compare_eq_gt.mpr (Int.mul_lt_mul_of_pos_right h hp)]
theorem hf_finite {k : Int} (hk : k.natAbs < 2 ^ 53) : isFinite (hf k) = true := by
  obtain ⟨m, e, hd, _⟩ := hf_decode hk
  unfold isFinite; rw [hd]

/-- the floor, out of the value -/
theorem floor_val {x : UInt64} {s : Bool} {m : Nat} {e : Int} (hd : decode x = .fin s m e) : floorOf s m e = val x / 2 ^ 1074 := by
  have he := decode_ge hd
  rw [val_eq hd, sgn_mul]
  unfold floorOf
  have hpow : ∀ n : Nat, ((2 ^ n : Nat) : Int) = (2 : Int) ^ n := fun n => by simp
  have hpos : ∀ n : Nat, (0 : Int) < (2 : Int) ^ n := fun n => Int.pow_pos (by decide)
  rw [hpow]
  split
  · rename_i h
    have e1 : (e + 1074).toNat = e.toNat + 1074 := by omega
    rw [e1, Int.pow_add, ← Int.mul_assoc, Int.mul_ediv_cancel _ (Int.ne_of_gt (hpos 1074))]
  · rename_i h
    have e1 : (2 : Int) ^ 1074 = 2 ^ (-e).toNat * 2 ^ (e + 1074).toNat := by rw [← Int.pow_add]; congr 1; omega
    rw [e1, Int.mul_ediv_mul_of_pos_left _ _ (hpos _), Int.fdiv_eq_ediv_of_nonneg _ (Int.le_of_lt (hpos _))]

theorem trunc_hf {k : Int} (h0 : 0 ≤ k) (hk : k.natAbs < 2 ^ 53) : Flt.toInt truncOf (hf k) = k / 2 := by
  obtain ⟨m, e, hd, hv, _⟩ := hf_decode hk
  rw [Flt.toInt_fin hd]
  have hs : decide (k < 0) = false := decide_eq_false (by omega)
  unfold truncOf
  rw [hs, if_neg (by decide), ← hs, floor_val hd, hv]
  have hp : (0 : Int) < 2 ^ 1073 := Int.pow_pos (by decide)
  rw [show (2 : Int) ^ 1074 = 2 * 2 ^ 1073 by rw [Int.pow_succ]; ac_rfl]
  exact Int.mul_ediv_mul_of_pos_left _ _ hp

/-- a quotient of ints as a double, its floor -/
theorem floor_quot {n d q s : Nat} (hd0 : 0 < d) (hs : s ≤ 1074) (hds : d ≤ 2 ^ s) (hq : q = n / d) (hfit : (q + 1) * 2 ^ s < 2 ^ 53) :
    isFinite (ofFrac false n d) = true ∧ Flt.toInt floorOf (ofFrac false n d) = (q : Int) := by
  have hR : Right (ofFrac false n d) false (n * 2 ^ 1074) d := ofFrac_right hd0 rfl hd0
  obtain ⟨t, hr, hle, hov, hnear⟩ := hR
  have hsp : 0 < 2 ^ s := Nat.two_pow_pos s
  have hq53 : q + 1 < 2 ^ 53 := by
    have : (q + 1) * 1 ≤ (q + 1) * 2 ^ s := Nat.mul_le_mul_left _ hsp
    omega
  have hn1 : q * d ≤ n := by rw [hq]; exact Nat.div_mul_le_self n d
  have hn2 : n + 1 ≤ (q + 1) * d := by
    rw [hq]
    have := Nat.lt_mul_div_succ n hd0
    rw [Nat.mul_comm] at this
    exact this
  obtain ⟨t0, ht0, hV0⟩ := V_exact q 1074 (by omega) (by omega)
  obtain ⟨t1, ht1, hV1⟩ := V_exact ((q + 1) * 2 ^ s - 1) (1074 - s) (by omega) (by omega)
  have hP : 0 < (2:Nat) ^ (1074 - s) := Nat.two_pow_pos _
  have eP : (2:Nat) ^ 1074 = 2 ^ s * 2 ^ (1074 - s) := by rw [← Nat.pow_add]; congr 1; omega
  have hlt : t < infMag := by
    rcases Nat.lt_or_ge t infMag with h | h
    · exact h
    · exfalso
      have h1 := hov.1 (by omega)
      have e : (2:Nat) ^ 2045 = 2 ^ 1074 * 2 ^ 971 := by rw [← Nat.pow_add]
      have h2 : 2 ^ 53 ≤ (2:Nat) ^ 971 := Nat.pow_le_pow_right (by decide) (by decide)
      have h3 : n < 2 ^ 53 * d := Nat.lt_of_lt_of_le hn2 (Nat.mul_le_mul_right _ (by omega))
      rw [e] at h1
      have hpp : 0 < (2:Nat) ^ 1074 := Nat.two_pow_pos _
      generalize (2:Nat) ^ 1074 = P at *
      generalize (2:Nat) ^ 971 = R at *
      have h4 : d * ((2 ^ 54 - 1) * (P * R)) = ((2 ^ 54 - 1) * (d * R)) * P := by ac_rfl
      have h5 : 2 * (n * P) = (2 * n) * P := by rw [Nat.mul_assoc]
      rw [h4, h5] at h1
      have h6 := Nat.le_of_mul_le_mul_right h1 hpp
      have h7 : d * 2 ^ 53 ≤ d * R := Nat.mul_le_mul_left _ h2
      omega
  have hx : ofFrac false n d = pack false t := hr
  obtain ⟨m, e, hdec, hm⟩ := decode_pack false hlt
  have hval : val (ofFrac false n d) = (V t : Int) := by rw [hx, val_pack false hlt]; rfl
  rw [← hx] at hdec
  refine ⟨by unfold isFinite; rw [hdec], ?_⟩
  rw [Flt.toInt_fin hdec, floor_val hdec, hval]
  have hpp : 0 < (2:Nat) ^ 1074 := Nat.two_pow_pos _
  -- from below
  have hlow : q * 2 ^ 1074 ≤ V t := by
    rcases Nat.lt_or_ge (V t) (q * 2 ^ 1074) with h | h
    · exfalso
      have h1 := (hnear hlt t0).1
      rw [hV0] at h1
      have h2 : d * V t < d * (q * 2 ^ 1074) := Nat.mul_lt_mul_of_pos_left h hd0
      have h3 : d * (q * 2 ^ 1074) ≤ n * 2 ^ 1074 := by
        rw [← Nat.mul_assoc, Nat.mul_comm d q]; exact Nat.mul_le_mul_right _ hn1
      unfold dist at h1
      omega
    · exact h
  -- from above
  have hup : V t < (q + 1) * 2 ^ 1074 := by
    rcases Nat.lt_or_ge (V t) ((q + 1) * 2 ^ 1074) with h | h
    · exact h
    · exfalso
      have h1 := (hnear hlt t1).1
      have hb : (q + 1) * 2 ^ 1074 = V t1 + 2 ^ (1074 - s) := by
        rw [hV1, Nat.sub_mul, eP, Nat.one_mul, ← Nat.mul_assoc]
        have : 1 * 2 ^ (1074 - s) ≤ (q + 1) * 2 ^ s * 2 ^ (1074 - s) := Nat.mul_le_mul_right _ (Nat.mul_pos (by omega) hsp)
        omega
      have h2 : d * V t1 < d * V t := Nat.mul_lt_mul_of_pos_left (by omega) hd0
      have h3 : n * 2 ^ 1074 ≤ d * V t1 := by
        have a1 : n * 2 ^ 1074 + 2 ^ 1074 ≤ d * ((q + 1) * 2 ^ 1074) := by
          have := Nat.mul_le_mul_right (2 ^ 1074) hn2
          rw [Nat.add_mul, Nat.one_mul] at this
          rw [← Nat.mul_assoc, Nat.mul_comm d (q + 1)]; exact this
        have a2 : d * 2 ^ (1074 - s) ≤ 2 ^ 1074 := by rw [eP]; exact Nat.mul_le_mul_right _ hds
        rw [hb, Nat.mul_add] at a1
        exact Nat.le_of_add_le_add_right (Nat.le_trans a1 (Nat.add_le_add_left a2 _))
      unfold dist at h1
      omega
  have g1 : (q : Int) * 2 ^ 1074 ≤ (V t : Int) := by
    have := Int.ofNat_le.mpr hlow
    simpa using this
  have g2 : (V t : Int) < ((q : Int) + 1) * 2 ^ 1074 := by
    have := Int.ofNat_lt.mpr hup
    simpa using this
  have hpi : (0 : Int) < 2 ^ 1074 := Int.pow_pos (by decide)
  apply Int.le_antisymm
  · exact Int.le_of_lt_add_one (Int.ediv_lt_of_lt_mul hpi g2)
  · exact Int.le_ediv_of_mul_le hpi g1

theorem ofBin_right {s : Bool} {M : Nat} {g : Int} (hg : -1074 ≤ g) : Right (ofBin s M g) s (M * 2 ^ (g + 1074).toNat) 1 := by
  unfold ofBin
  refine ofFrac_right (shift_pos _ _ _ (by decide)) ?_ (by decide)
  have := shift_one M g 1074 (by omega)
  rw [Nat.mul_one]
  exact this
theorem fmod_hf {a b : Int} (h0 : 0 ≤ a) (ha : a.natAbs < 2 ^ 53) (h1 : 0 < b) (hb : b.natAbs < 2 ^ 53) : fmod (hf a) (hf b) = hf (a % b) := by
  obtain ⟨m, e, hd, hv, hm⟩ := hf_decode ha
  obtain ⟨k, f, hd', hv', hk⟩ := hf_decode hb
  have he := decode_ge hd
  have hf' := decode_ge hd'
  have hr0 := Int.emod_nonneg a (Int.ne_of_gt h1)
  have hr1 := Int.emod_lt_of_pos a h1
  have hk0 : k ≠ 0 := by
    intro h
    rw [h, Nat.zero_mul] at hk
    have := Nat.mul_pos (show 0 < b.natAbs by omega) pow1073_pos
    omega
  have hfm : fmod (hf a) (hf b) = ofBin (decide (a < 0)) ((m * 2 ^ (e - min e f).toNat) % (k * 2 ^ (f - min e f).toNat)) (min e f) := by
    unfold fmod
    rw [hd, hd']
    simp only
    rw [if_neg (by simpa using hk0)]
    rfl
  rw [hfm]
  refine hf_of_right (by omega) ?_
  have e0 : decide (a % b < 0) = decide (a < 0) := decide_eq_decide.mpr (by omega)
  rw [e0]
  have := ofBin_right (s := decide (a < 0)) (M := (m * 2 ^ (e - min e f).toNat) % (k * 2 ^ (f - min e f).toNat)) (g := min e f) (by omega)
  have e1 : (m * 2 ^ (e - min e f).toNat) % (k * 2 ^ (f - min e f).toNat) * 2 ^ (min e f + 1074).toNat = (a % b).natAbs * 2 ^ 1073 := by
    rw [← Nat.mul_mod_mul_right, Nat.mul_assoc, Nat.mul_assoc, ← Nat.pow_add, ← Nat.pow_add]
    have i1 : (e - min e f).toNat + (min e f + 1074).toNat = (e + 1074).toNat := by omega
    have i2 : (f - min e f).toNat + (min e f + 1074).toNat = (f + 1074).toNat := by omega
    rw [i1, i2, hm, hk, Nat.mul_mod_mul_right]
    congr 1
    have c1 : a = (a.natAbs : Int) := by omega
    have c2 : b = (b.natAbs : Int) := by omega
    have c3 : ((a.natAbs % b.natAbs : Nat) : Int) = a % b := by
      rw [Int.natCast_emod, ← c1, ← c2]
    omega
  rw [← e1]
  exact this
theorem isZero_hf {k : Int} (hk : k.natAbs < 2 ^ 53) : isZero (hf k) = decide (k = 0) := by
  obtain ⟨m, e, hd, hv, hm⟩ := hf_decode hk
  unfold isZero
  rw [hd]
  by_cases h : k = 0
  · subst h
    have : m = 0 := by
      have h2 : m * 2 ^ (e + 1074).toNat = 0 := by rw [hm]; simp
      rcases Nat.mul_eq_zero.mp h2 with h3 | h3
      · exact h3
      · exact absurd h3 (Nat.ne_of_gt (Nat.two_pow_pos _))
    subst this
    rfl
  · have : m ≠ 0 := by
      intro h2
      rw [h2, Nat.zero_mul] at hm
      have := Nat.mul_pos (show 0 < k.natAbs by omega) pow1073_pos
      omega
    rw [decide_eq_false h]
    cases m with
    | zero => exact absurd rfl this
    | succ m => rfl
theorem zero_hf : zero false = hf 0 := by unfold hf; decide +kernel
theorem cmp_hf {a b : Int} (ha : a.natAbs < 2 ^ 53) (hb : b.natAbs < 2 ^ 53) : cmp (hf a) (hf b) = some (compare a b) := by
  obtain ⟨m, e, hd, hv, _⟩ := hf_decode ha
  obtain ⟨k, f, hd', hv', _⟩ := hf_decode hb
  rw [cmp_right hd hd', hv, hv']
  have hp : (0 : Int) < 2 ^ 1073 := Int.pow_pos (by decide)
  generalize (2 : Int) ^ 1073 = P at *
  congr 1
  rcases Int.lt_trichotomy a b with h | h | h
  · rw [Int.compare_eq_lt.mpr h, Int.compare_eq_lt.mpr (Int.mul_lt_mul_of_pos_right h hp)]
  · rw [h]; simp
  · rw [Int.compare_eq_gt.mpr h, Int.compare_eq_gt.mpr (Int.mul_lt_mul_of_pos_right h hp)]
theorem signBit_hf {b : Int} (h : 0 < b) (hb : b.natAbs < 2 ^ 53) : signBit (hf b) = false ∧ isNaN (hf b) = false := by
  obtain ⟨m, e, hd, hv, _⟩ := hf_decode hb
  have hs : decide (b < 0) = false := decide_eq_false (by omega)
  rw [hs] at hd
  refine ⟨?_, by unfold isNaN; rw [hd]⟩
  unfold decode at hd
  simp only at hd
  unfold signBit
  split at hd
  · split at hd <;> cases hd
  · split at hd
    · injection hd
    · injection hd
theorem copysign_zero_hf {b : Int} (h : 0 < b) (hb : b.natAbs < 2 ^ 53) : copysign (zero false) (hf b) = hf 0 := by
  unfold copysign
  rw [(signBit_hf h hb).1]
  unfold hf; decide +kernel
theorem mod_hf {a n : Int} (h0 : 0 ≤ a) (ha : a.natAbs < 2 ^ 53) (h1 : 0 < n) (hb : (2 * n).natAbs < 2 ^ 53) : (divmod (hf a) (ofInt n)).2 = hf (a % (2 * n)) := by
  rw [ofInt_hf hb]
  have hr0 := Int.emod_nonneg a (show (2 * n) ≠ 0 by omega)
  have hr1 := Int.emod_lt_of_pos a (show 0 < 2 * n by omega)
  unfold divmod
  rw [fmod_hf h0 ha (by omega) hb]
  simp only
  rw [isZero_hf (by omega)]
  by_cases hz : a % (2 * n) = 0
  · rw [if_pos (by simpa using hz), hz]
    simp only
    exact copysign_zero_hf (by omega) hb
  · rw [if_neg (by simpa using hz)]
    have l1 : lt (hf (2 * n)) (zero false) = false := by
      unfold lt
      rw [zero_hf, cmp_hf hb (by decide), Int.compare_eq_gt.mpr (by omega)]
      rfl
    have l2 : lt (hf (a % (2 * n))) (zero false) = false := by
      unfold lt
      rw [zero_hf, cmp_hf (by omega) (by decide), Int.compare_eq_gt.mpr (by omega)]
      rfl
    rw [l1, l2, if_neg (by decide)]
theorem epoch_hf : (4689722129631936512 : UInt64) = hf 695991 := by unfold hf; decide +kernel
theorem half_hf : (4602678819172646912 : UInt64) = hf 1 := by unfold hf; decide +kernel
end Mine
end

section
namespace Mine
theorem dd_eq (y : Int) : dd y = (12084 + 765433 * mo y) / 25920 := by
  unfold dd; omega
theorem leap_iff (y : Int) : leapB y = true ↔ (y * 7 + 1) % 19 < 7 := by unfold leapB; exact decide_eq_true_iff
theorem mod19 (y : Int) : ∃ k : Int, y = 19 * k + 0 ∨ y = 19 * k + 1 ∨ y = 19 * k + 2 ∨ y = 19 * k + 3 ∨ y = 19 * k + 4 ∨ y = 19 * k + 5 ∨ y = 19 * k + 6 ∨ y = 19 * k + 7 ∨ y = 19 * k + 8 ∨ y = 19 * k + 9 ∨ y = 19 * k + 10 ∨ y = 19 * k + 11 ∨ y = 19 * k + 12 ∨ y = 19 * k + 13 ∨ y = 19 * k + 14 ∨ y = 19 * k + 15 ∨ y = 19 * k + 16 ∨ y = 19 * k + 17 ∨ y = 19 * k + 18 := ⟨y / 19, by omega⟩
theorem mo_next (y : Int) : (leapB y = true ∧ mo (y + 1) = mo y + 13) ∨ (leapB y = false ∧ mo (y + 1) = mo y + 12) := by
  unfold leapB mo
  simp only [decide_eq_true_eq, decide_eq_false_iff_not]
  obtain ⟨k, h⟩ := mod19 y
  rcases h with rfl | rfl | rfl | rfl | rfl | rfl | rfl | rfl | rfl | rfl | rfl | rfl | rfl | rfl | rfl | rfl | rfl | rfl | rfl <;> omega
theorem mo_leap {y : Int} (h : leapB y = true) : mo (y + 1) = mo y + 13 := by
  rcases mo_next y with h1 | h1
  · exact h1.2
  · rw [h] at h1; cases h1.1
theorem mo_plain {y : Int} (h : leapB y = false) : mo (y + 1) = mo y + 12 := by
  rcases mo_next y with h1 | h1
  · rw [h] at h1; cases h1.1
  · exact h1.2
/-- no two long years follow one another, no three short ones -/
theorem leap_gap (y : Int) : (leapB y = true → leapB (y + 1) = false) ∧ (leapB y = false → leapB (y + 1) = false → leapB (y + 2) = true) := by
  unfold leapB
  simp only [decide_eq_true_eq, decide_eq_false_iff_not]
  obtain ⟨k, h⟩ := mod19 y
  rcases h with rfl | rfl | rfl | rfl | rfl | rfl | rfl | rfl | rfl | rfl | rfl | rfl | rfl | rfl | rfl | rfl | rfl | rfl | rfl <;> omega
theorem d1_rel (y : Int) : (3 * (dd y + 1) % 7 < 3 ∧ d1 y = dd y + 1) ∨ (3 ≤ 3 * (dd y + 1) % 7 ∧ d1 y = dd y) := by
  unfold d1; split <;> omega
theorem d2_rel (y : Int) : (d1 (y + 1) - d1 y = 356 ∧ d2 y = 2) ∨ (d1 (y + 1) - d1 y ≠ 356 ∧ d1 y - d1 (y - 1) = 382 ∧ d2 y = 1) ∨ (d1 (y + 1) - d1 y ≠ 356 ∧ d1 y - d1 (y - 1) ≠ 382 ∧ d2 y = 0) := by
  unfold d2; (repeat' split) <;> omega
/-- part of the day of the moon, with the six hours added -/
@[irreducible] def fp (y : Int) : Int := (12084 + 765433 * mo y) % 25920

theorem dd_next {y : Int} (h : leapB y = false) : (fp y < 16404 ∧ dd (y + 1) = dd y + 354 ∧ fp (y + 1) = fp y + 9516) ∨ (16404 ≤ fp y ∧ dd (y + 1) = dd y + 355 ∧ fp (y + 1) = fp y - 16404) := by
  rw [dd_eq, dd_eq]; unfold fp; rw [mo_plain h]; omega
theorem dd_nextL {y : Int} (h : leapB y = true) : (fp y < 2651 ∧ dd (y + 1) = dd y + 383 ∧ fp (y + 1) = fp y + 23269) ∨ (2651 ≤ fp y ∧ dd (y + 1) = dd y + 384 ∧ fp (y + 1) = fp y - 2651) := by
  rw [dd_eq, dd_eq]; unfold fp; rw [mo_leap h]; omega
theorem fp_bd (y : Int) : 0 ≤ fp y ∧ fp y < 25920 := by unfold fp; omega

/-- the four delays -/
theorem ny_rule (y : Int) :
    (dd y % 7 = 2 ∧ ny y = dd y + 1) ∨ (dd y % 7 = 4 ∧ ny y = dd y + 1) ∨ (dd y % 7 = 6 ∧ ny y = dd y + 1) ∨
    (dd y % 7 = 1 ∧ 16404 ≤ fp y ∧ leapB y = false ∧ ny y = dd y + 2) ∨
    (dd y % 7 = 1 ∧ (fp y < 16404 ∨ leapB y = true) ∧ ny y = dd y) ∨
    (dd y % 7 = 0 ∧ 23269 ≤ fp y ∧ leapB (y - 1) = true ∧ ny y = dd y + 1) ∨
    (dd y % 7 = 0 ∧ (fp y < 23269 ∨ leapB (y - 1) = false) ∧ ny y = dd y) ∨
    (dd y % 7 = 3 ∧ ny y = dd y) ∨ (dd y % 7 = 5 ∧ ny y = dd y) := by
  have a1 := d1_rel (y - 1)
  have a2 := d1_rel y
  have a3 := d1_rel (y + 1)
  have a4 := d2_rel y
  have b0 := fp_bd y
  have g := (leap_gap (y - 1)).1
  have e : y - 1 + 1 = y := by omega
  rw [e] at g
  unfold ny
  have hw : dd y % 7 = 0 ∨ dd y % 7 = 1 ∨ dd y % 7 = 2 ∨ dd y % 7 = 3 ∨ dd y % 7 = 4 ∨ dd y % 7 = 5 ∨ dd y % 7 = 6 := by omega
  cases hp : leapB (y - 1) <;> cases hl : leapB y
  · have c1 := dd_next hp
    have c2 := dd_next hl
    rw [e] at c1
    have b1 := fp_bd (y - 1)
    rcases hw with hw | hw | hw | hw | hw | hw | hw <;> simp [hw] <;> omega
  · have c1 := dd_next hp
    have c2 := dd_nextL hl
    rw [e] at c1
    have b1 := fp_bd (y - 1)
    rcases hw with hw | hw | hw | hw | hw | hw | hw <;> simp [hw] <;> omega
  · have c1 := dd_nextL hp
    have c2 := dd_next hl
    rw [e] at c1
    have b1 := fp_bd (y - 1)
    rcases hw with hw | hw | hw | hw | hw | hw | hw <;> simp [hw] <;> omega
  · exact absurd (g hp) (by rw [hl]; decide)
end Mine
end

section
namespace Mine
theorem ny_246 {y : Int} (h : dd y % 7 = 2 ∨ dd y % 7 = 4 ∨ dd y % 7 = 6) : ny y = dd y + 1 := by have := ny_rule y; omega
theorem ny_35 {y : Int} (h : dd y % 7 = 3 ∨ dd y % 7 = 5) : ny y = dd y := by have := ny_rule y; omega
theorem ny_1a {y : Int} (h : dd y % 7 = 1) (hf : 16404 ≤ fp y) (hl : leapB y = false) : ny y = dd y + 2 := by have := ny_rule y; simp only [hl, Bool.false_eq_true, or_false] at this; omega
theorem ny_1b {y : Int} (h : dd y % 7 = 1) (hf : fp y < 16404) : ny y = dd y := by have := ny_rule y; omega
theorem ny_1c {y : Int} (h : dd y % 7 = 1) (hl : leapB y = true) : ny y = dd y := by have := ny_rule y; simp only [hl, Bool.true_eq_false, false_and, and_false, false_or] at this; omega
theorem ny_0a {y : Int} (h : dd y % 7 = 0) (hf : 23269 ≤ fp y) (hl : leapB (y - 1) = true) : ny y = dd y + 1 := by have := ny_rule y; simp only [hl, Bool.true_eq_false, or_false] at this; omega
theorem ny_0b {y : Int} (h : dd y % 7 = 0) (hf : fp y < 23269) : ny y = dd y := by have := ny_rule y; omega
theorem ny_0c {y : Int} (h : dd y % 7 = 0) (hl : leapB (y - 1) = false) : ny y = dd y := by have := ny_rule y; simp only [hl, Bool.false_eq_true, false_and, and_false, false_or] at this; omega
theorem dd_a {y : Int} (h : leapB y = false) (hf : fp y < 16404) : dd (y + 1) = dd y + 354 ∧ fp (y + 1) = fp y + 9516 := by have := dd_next h; omega
theorem dd_b {y : Int} (h : leapB y = false) (hf : 16404 ≤ fp y) : dd (y + 1) = dd y + 355 ∧ fp (y + 1) = fp y - 16404 := by have := dd_next h; omega
theorem dd_c {y : Int} (h : leapB y = true) (hf : fp y < 2651) : dd (y + 1) = dd y + 383 ∧ fp (y + 1) = fp y + 23269 := by have := dd_nextL h; omega
theorem dd_d {y : Int} (h : leapB y = true) (hf : 2651 ≤ fp y) : dd (y + 1) = dd y + 384 ∧ fp (y + 1) = fp y - 2651 := by have := dd_nextL h; omega
/-- how far 1 Tishri begins behind its moon -/
@[irreducible] def b7 (y : Int) : Int := ny y * 25920 - (5604 + mo y * 765433)
theorem b7_eq (y : Int) : b7 y = (ny y - dd y) * 25920 - fp y + 6480 := by unfold b7 fp; have := dd_eq y; omega
def Kind (y : Int) : Prop :=
  (leapB y = false ∧ (ny (y + 1) - ny y = 353 ∧ 15997 ≤ b7 y ∨ ny (y + 1) - ny y = 354 ∧ -9923 ≤ b7 y ∨ ny (y + 1) - ny y = 355 ∧ b7 y ≤ 25512)) ∨
  (leapB y = true ∧ (ny (y + 1) - ny y = 383 ∧ 3830 ≤ b7 y ∨ ny (y + 1) - ny y = 384 ∧ b7 y ≤ 39265 ∨ ny (y + 1) - ny y = 385 ∧ b7 y ≤ 13345))
theorem k_leaf1 {y : Int} (hp : leapB (y - 1) = false) (hl : leapB y = false) (hn : leapB (y + 1) = true) (hw : dd y % 7 = 0) (h0 : 0 ≤ fp y) (h1 : fp y < 2651) : Kind y := by
  have e1 : y + 1 - 1 = y := by omega
  have n0 := ny_0c (y := y) (by omega) hp
  have s0 := dd_a (y := y) hl (by omega)
  have n1 := ny_246 (y := (y + 1)) (by omega)
  have q := b7_eq y
  exact Or.inl ⟨hl, Or.inr (Or.inr ⟨by omega, by omega⟩)⟩
theorem k_leaf2 {y : Int} (hp : leapB (y - 1) = false) (hl : leapB y = false) (hn : leapB (y + 1) = true) (hw : dd y % 7 = 0) (h0 : 2651 ≤ fp y) (h1 : fp y < 6888) : Kind y := by
  have e1 : y + 1 - 1 = y := by omega
  have n0 := ny_0c (y := y) (by omega) hp
  have s0 := dd_a (y := y) hl (by omega)
  have n1 := ny_246 (y := (y + 1)) (by omega)
  have q := b7_eq y
  exact Or.inl ⟨hl, Or.inr (Or.inr ⟨by omega, by omega⟩)⟩
theorem k_leaf3 {y : Int} (hp : leapB (y - 1) = false) (hl : leapB y = false) (hn : leapB (y + 1) = true) (hw : dd y % 7 = 0) (h0 : 6888 ≤ fp y) (h1 : fp y < 13753) : Kind y := by
  have e1 : y + 1 - 1 = y := by omega
  have n0 := ny_0c (y := y) (by omega) hp
  have s0 := dd_a (y := y) hl (by omega)
  have n1 := ny_246 (y := (y + 1)) (by omega)
  have q := b7_eq y
  exact Or.inl ⟨hl, Or.inr (Or.inr ⟨by omega, by omega⟩)⟩
theorem k_leaf4 {y : Int} (hp : leapB (y - 1) = false) (hl : leapB y = false) (hn : leapB (y + 1) = true) (hw : dd y % 7 = 0) (h0 : 13753 ≤ fp y) (h1 : fp y < 16404) : Kind y := by
  have e1 : y + 1 - 1 = y := by omega
  have n0 := ny_0c (y := y) (by omega) hp
  have s0 := dd_a (y := y) hl (by omega)
  have n1 := ny_246 (y := (y + 1)) (by omega)
  have q := b7_eq y
  exact Or.inl ⟨hl, Or.inr (Or.inr ⟨by omega, by omega⟩)⟩
theorem k_leaf5 {y : Int} (hp : leapB (y - 1) = false) (hl : leapB y = false) (hn : leapB (y + 1) = true) (hw : dd y % 7 = 0) (h0 : 16404 ≤ fp y) (h1 : fp y < 19055) : Kind y := by
  have e1 : y + 1 - 1 = y := by omega
  have n0 := ny_0c (y := y) (by omega) hp
  have s0 := dd_b (y := y) hl (by omega)
  have n1 := ny_35 (y := (y + 1)) (by omega)
  have q := b7_eq y
  exact Or.inl ⟨hl, Or.inr (Or.inr ⟨by omega, by omega⟩)⟩
theorem k_leaf6 {y : Int} (hp : leapB (y - 1) = false) (hl : leapB y = false) (hn : leapB (y + 1) = true) (hw : dd y % 7 = 0) (h0 : 19055 ≤ fp y) (h1 : fp y < 23269) : Kind y := by
  have e1 : y + 1 - 1 = y := by omega
  have n0 := ny_0c (y := y) (by omega) hp
  have s0 := dd_b (y := y) hl (by omega)
  have n1 := ny_35 (y := (y + 1)) (by omega)
  have q := b7_eq y
  exact Or.inl ⟨hl, Or.inr (Or.inr ⟨by omega, by omega⟩)⟩
theorem k_leaf7 {y : Int} (hp : leapB (y - 1) = false) (hl : leapB y = false) (hn : leapB (y + 1) = true) (hw : dd y % 7 = 0) (h0 : 23269 ≤ fp y) (h1 : fp y < 25920) : Kind y := by
  have e1 : y + 1 - 1 = y := by omega
  have n0 := ny_0c (y := y) (by omega) hp
  have s0 := dd_b (y := y) hl (by omega)
  have n1 := ny_35 (y := (y + 1)) (by omega)
  have q := b7_eq y
  exact Or.inl ⟨hl, Or.inr (Or.inr ⟨by omega, by omega⟩)⟩
theorem k_leaf8 {y : Int} (hp : leapB (y - 1) = false) (hl : leapB y = false) (hn : leapB (y + 1) = true) (hw : dd y % 7 = 1) (h0 : 0 ≤ fp y) (h1 : fp y < 2651) : Kind y := by
  have e1 : y + 1 - 1 = y := by omega
  have n0 := ny_1b (y := y) (by omega) (by omega)
  have s0 := dd_a (y := y) hl (by omega)
  have n1 := ny_35 (y := (y + 1)) (by omega)
  have q := b7_eq y
  exact Or.inl ⟨hl, Or.inr (Or.inl ⟨by omega, by omega⟩)⟩
theorem k_leaf9 {y : Int} (hp : leapB (y - 1) = false) (hl : leapB y = false) (hn : leapB (y + 1) = true) (hw : dd y % 7 = 1) (h0 : 2651 ≤ fp y) (h1 : fp y < 6888) : Kind y := by
  have e1 : y + 1 - 1 = y := by omega
  have n0 := ny_1b (y := y) (by omega) (by omega)
  have s0 := dd_a (y := y) hl (by omega)
  have n1 := ny_35 (y := (y + 1)) (by omega)
  have q := b7_eq y
  exact Or.inl ⟨hl, Or.inr (Or.inl ⟨by omega, by omega⟩)⟩
theorem k_leaf10 {y : Int} (hp : leapB (y - 1) = false) (hl : leapB y = false) (hn : leapB (y + 1) = true) (hw : dd y % 7 = 1) (h0 : 6888 ≤ fp y) (h1 : fp y < 13753) : Kind y := by
  have e1 : y + 1 - 1 = y := by omega
  have n0 := ny_1b (y := y) (by omega) (by omega)
  have s0 := dd_a (y := y) hl (by omega)
  have n1 := ny_35 (y := (y + 1)) (by omega)
  have q := b7_eq y
  exact Or.inl ⟨hl, Or.inr (Or.inl ⟨by omega, by omega⟩)⟩
theorem k_leaf11 {y : Int} (hp : leapB (y - 1) = false) (hl : leapB y = false) (hn : leapB (y + 1) = true) (hw : dd y % 7 = 1) (h0 : 13753 ≤ fp y) (h1 : fp y < 16404) : Kind y := by
  have e1 : y + 1 - 1 = y := by omega
  have n0 := ny_1b (y := y) (by omega) (by omega)
  have s0 := dd_a (y := y) hl (by omega)
  have n1 := ny_35 (y := (y + 1)) (by omega)
  have q := b7_eq y
  exact Or.inl ⟨hl, Or.inr (Or.inl ⟨by omega, by omega⟩)⟩
theorem k_leaf12 {y : Int} (hp : leapB (y - 1) = false) (hl : leapB y = false) (hn : leapB (y + 1) = true) (hw : dd y % 7 = 1) (h0 : 16404 ≤ fp y) (h1 : fp y < 19055) : Kind y := by
  have e1 : y + 1 - 1 = y := by omega
  have n0 := ny_1a (y := y) (by omega) (by omega) hl
  have s0 := dd_b (y := y) hl (by omega)
  have n1 := ny_246 (y := (y + 1)) (by omega)
  have q := b7_eq y
  exact Or.inl ⟨hl, Or.inr (Or.inl ⟨by omega, by omega⟩)⟩
theorem k_leaf13 {y : Int} (hp : leapB (y - 1) = false) (hl : leapB y = false) (hn : leapB (y + 1) = true) (hw : dd y % 7 = 1) (h0 : 19055 ≤ fp y) (h1 : fp y < 23269) : Kind y := by
  have e1 : y + 1 - 1 = y := by omega
  have n0 := ny_1a (y := y) (by omega) (by omega) hl
  have s0 := dd_b (y := y) hl (by omega)
  have n1 := ny_246 (y := (y + 1)) (by omega)
  have q := b7_eq y
  exact Or.inl ⟨hl, Or.inr (Or.inl ⟨by omega, by omega⟩)⟩
theorem k_leaf14 {y : Int} (hp : leapB (y - 1) = false) (hl : leapB y = false) (hn : leapB (y + 1) = true) (hw : dd y % 7 = 1) (h0 : 23269 ≤ fp y) (h1 : fp y < 25920) : Kind y := by
  have e1 : y + 1 - 1 = y := by omega
  have n0 := ny_1a (y := y) (by omega) (by omega) hl
  have s0 := dd_b (y := y) hl (by omega)
  have n1 := ny_246 (y := (y + 1)) (by omega)
  have q := b7_eq y
  exact Or.inl ⟨hl, Or.inr (Or.inl ⟨by omega, by omega⟩)⟩
theorem k_leaf15 {y : Int} (hp : leapB (y - 1) = false) (hl : leapB y = false) (hn : leapB (y + 1) = true) (hw : dd y % 7 = 2) (h0 : 0 ≤ fp y) (h1 : fp y < 2651) : Kind y := by
  have e1 : y + 1 - 1 = y := by omega
  have n0 := ny_246 (y := y) (by omega)
  have s0 := dd_a (y := y) hl (by omega)
  have n1 := ny_246 (y := (y + 1)) (by omega)
  have q := b7_eq y
  exact Or.inl ⟨hl, Or.inr (Or.inl ⟨by omega, by omega⟩)⟩
theorem k_leaf16 {y : Int} (hp : leapB (y - 1) = false) (hl : leapB y = false) (hn : leapB (y + 1) = true) (hw : dd y % 7 = 2) (h0 : 2651 ≤ fp y) (h1 : fp y < 6888) : Kind y := by
  have e1 : y + 1 - 1 = y := by omega
  have n0 := ny_246 (y := y) (by omega)
  have s0 := dd_a (y := y) hl (by omega)
  have n1 := ny_246 (y := (y + 1)) (by omega)
  have q := b7_eq y
  exact Or.inl ⟨hl, Or.inr (Or.inl ⟨by omega, by omega⟩)⟩
theorem k_leaf17 {y : Int} (hp : leapB (y - 1) = false) (hl : leapB y = false) (hn : leapB (y + 1) = true) (hw : dd y % 7 = 2) (h0 : 6888 ≤ fp y) (h1 : fp y < 13753) : Kind y := by
  have e1 : y + 1 - 1 = y := by omega
  have n0 := ny_246 (y := y) (by omega)
  have s0 := dd_a (y := y) hl (by omega)
  have n1 := ny_246 (y := (y + 1)) (by omega)
  have q := b7_eq y
  exact Or.inl ⟨hl, Or.inr (Or.inl ⟨by omega, by omega⟩)⟩
theorem k_leaf18 {y : Int} (hp : leapB (y - 1) = false) (hl : leapB y = false) (hn : leapB (y + 1) = true) (hw : dd y % 7 = 2) (h0 : 13753 ≤ fp y) (h1 : fp y < 16404) : Kind y := by
  have e1 : y + 1 - 1 = y := by omega
  have n0 := ny_246 (y := y) (by omega)
  have s0 := dd_a (y := y) hl (by omega)
  have n1 := ny_246 (y := (y + 1)) (by omega)
  have q := b7_eq y
  exact Or.inl ⟨hl, Or.inr (Or.inl ⟨by omega, by omega⟩)⟩
theorem k_leaf19 {y : Int} (hp : leapB (y - 1) = false) (hl : leapB y = false) (hn : leapB (y + 1) = true) (hw : dd y % 7 = 2) (h0 : 16404 ≤ fp y) (h1 : fp y < 19055) : Kind y := by
  have e1 : y + 1 - 1 = y := by omega
  have n0 := ny_246 (y := y) (by omega)
  have s0 := dd_b (y := y) hl (by omega)
  have n1 := ny_0c (y := (y + 1)) (by omega) (by rw [e1]; exact hl)
  have q := b7_eq y
  exact Or.inl ⟨hl, Or.inr (Or.inl ⟨by omega, by omega⟩)⟩
theorem k_leaf20 {y : Int} (hp : leapB (y - 1) = false) (hl : leapB y = false) (hn : leapB (y + 1) = true) (hw : dd y % 7 = 2) (h0 : 19055 ≤ fp y) (h1 : fp y < 23269) : Kind y := by
  have e1 : y + 1 - 1 = y := by omega
  have n0 := ny_246 (y := y) (by omega)
  have s0 := dd_b (y := y) hl (by omega)
  have n1 := ny_0c (y := (y + 1)) (by omega) (by rw [e1]; exact hl)
  have q := b7_eq y
  exact Or.inl ⟨hl, Or.inr (Or.inl ⟨by omega, by omega⟩)⟩
theorem k_leaf21 {y : Int} (hp : leapB (y - 1) = false) (hl : leapB y = false) (hn : leapB (y + 1) = true) (hw : dd y % 7 = 2) (h0 : 23269 ≤ fp y) (h1 : fp y < 25920) : Kind y := by
  have e1 : y + 1 - 1 = y := by omega
  have n0 := ny_246 (y := y) (by omega)
  have s0 := dd_b (y := y) hl (by omega)
  have n1 := ny_0c (y := (y + 1)) (by omega) (by rw [e1]; exact hl)
  have q := b7_eq y
  exact Or.inl ⟨hl, Or.inr (Or.inl ⟨by omega, by omega⟩)⟩
theorem k_leaf22 {y : Int} (hp : leapB (y - 1) = false) (hl : leapB y = false) (hn : leapB (y + 1) = true) (hw : dd y % 7 = 3) (h0 : 0 ≤ fp y) (h1 : fp y < 2651) : Kind y := by
  have e1 : y + 1 - 1 = y := by omega
  have n0 := ny_35 (y := y) (by omega)
  have s0 := dd_a (y := y) hl (by omega)
  have n1 := ny_0c (y := (y + 1)) (by omega) (by rw [e1]; exact hl)
  have q := b7_eq y
  exact Or.inl ⟨hl, Or.inr (Or.inl ⟨by omega, by omega⟩)⟩
theorem k_leaf23 {y : Int} (hp : leapB (y - 1) = false) (hl : leapB y = false) (hn : leapB (y + 1) = true) (hw : dd y % 7 = 3) (h0 : 2651 ≤ fp y) (h1 : fp y < 6888) : Kind y := by
  have e1 : y + 1 - 1 = y := by omega
  have n0 := ny_35 (y := y) (by omega)
  have s0 := dd_a (y := y) hl (by omega)
  have n1 := ny_0c (y := (y + 1)) (by omega) (by rw [e1]; exact hl)
  have q := b7_eq y
  exact Or.inl ⟨hl, Or.inr (Or.inl ⟨by omega, by omega⟩)⟩
theorem k_leaf24 {y : Int} (hp : leapB (y - 1) = false) (hl : leapB y = false) (hn : leapB (y + 1) = true) (hw : dd y % 7 = 3) (h0 : 6888 ≤ fp y) (h1 : fp y < 13753) : Kind y := by
  have e1 : y + 1 - 1 = y := by omega
  have n0 := ny_35 (y := y) (by omega)
  have s0 := dd_a (y := y) hl (by omega)
  have n1 := ny_0c (y := (y + 1)) (by omega) (by rw [e1]; exact hl)
  have q := b7_eq y
  exact Or.inl ⟨hl, Or.inr (Or.inl ⟨by omega, by omega⟩)⟩
theorem k_leaf25 {y : Int} (hp : leapB (y - 1) = false) (hl : leapB y = false) (hn : leapB (y + 1) = true) (hw : dd y % 7 = 3) (h0 : 13753 ≤ fp y) (h1 : fp y < 16404) : Kind y := by
  have e1 : y + 1 - 1 = y := by omega
  have n0 := ny_35 (y := y) (by omega)
  have s0 := dd_a (y := y) hl (by omega)
  have n1 := ny_0c (y := (y + 1)) (by omega) (by rw [e1]; exact hl)
  have q := b7_eq y
  exact Or.inl ⟨hl, Or.inr (Or.inl ⟨by omega, by omega⟩)⟩
theorem k_leaf26 {y : Int} (hp : leapB (y - 1) = false) (hl : leapB y = false) (hn : leapB (y + 1) = true) (hw : dd y % 7 = 3) (h0 : 16404 ≤ fp y) (h1 : fp y < 19055) : Kind y := by
  have e1 : y + 1 - 1 = y := by omega
  have n0 := ny_35 (y := y) (by omega)
  have s0 := dd_b (y := y) hl (by omega)
  have n1 := ny_1c (y := (y + 1)) (by omega) hn
  have q := b7_eq y
  exact Or.inl ⟨hl, Or.inr (Or.inr ⟨by omega, by omega⟩)⟩
theorem k_leaf27 {y : Int} (hp : leapB (y - 1) = false) (hl : leapB y = false) (hn : leapB (y + 1) = true) (hw : dd y % 7 = 3) (h0 : 19055 ≤ fp y) (h1 : fp y < 23269) : Kind y := by
  have e1 : y + 1 - 1 = y := by omega
  have n0 := ny_35 (y := y) (by omega)
  have s0 := dd_b (y := y) hl (by omega)
  have n1 := ny_1c (y := (y + 1)) (by omega) hn
  have q := b7_eq y
  exact Or.inl ⟨hl, Or.inr (Or.inr ⟨by omega, by omega⟩)⟩
theorem k_leaf28 {y : Int} (hp : leapB (y - 1) = false) (hl : leapB y = false) (hn : leapB (y + 1) = true) (hw : dd y % 7 = 3) (h0 : 23269 ≤ fp y) (h1 : fp y < 25920) : Kind y := by
  have e1 : y + 1 - 1 = y := by omega
  have n0 := ny_35 (y := y) (by omega)
  have s0 := dd_b (y := y) hl (by omega)
  have n1 := ny_1c (y := (y + 1)) (by omega) hn
  have q := b7_eq y
  exact Or.inl ⟨hl, Or.inr (Or.inr ⟨by omega, by omega⟩)⟩
theorem k_leaf29 {y : Int} (hp : leapB (y - 1) = false) (hl : leapB y = false) (hn : leapB (y + 1) = true) (hw : dd y % 7 = 4) (h0 : 0 ≤ fp y) (h1 : fp y < 2651) : Kind y := by
  have e1 : y + 1 - 1 = y := by omega
  have n0 := ny_246 (y := y) (by omega)
  have s0 := dd_a (y := y) hl (by omega)
  have n1 := ny_1c (y := (y + 1)) (by omega) hn
  have q := b7_eq y
  exact Or.inl ⟨hl, Or.inl ⟨by omega, by omega⟩⟩
theorem k_leaf30 {y : Int} (hp : leapB (y - 1) = false) (hl : leapB y = false) (hn : leapB (y + 1) = true) (hw : dd y % 7 = 4) (h0 : 2651 ≤ fp y) (h1 : fp y < 6888) : Kind y := by
  have e1 : y + 1 - 1 = y := by omega
  have n0 := ny_246 (y := y) (by omega)
  have s0 := dd_a (y := y) hl (by omega)
  have n1 := ny_1c (y := (y + 1)) (by omega) hn
  have q := b7_eq y
  exact Or.inl ⟨hl, Or.inl ⟨by omega, by omega⟩⟩
theorem k_leaf31 {y : Int} (hp : leapB (y - 1) = false) (hl : leapB y = false) (hn : leapB (y + 1) = true) (hw : dd y % 7 = 4) (h0 : 6888 ≤ fp y) (h1 : fp y < 13753) : Kind y := by
  have e1 : y + 1 - 1 = y := by omega
  have n0 := ny_246 (y := y) (by omega)
  have s0 := dd_a (y := y) hl (by omega)
  have n1 := ny_1c (y := (y + 1)) (by omega) hn
  have q := b7_eq y
  exact Or.inl ⟨hl, Or.inl ⟨by omega, by omega⟩⟩
theorem k_leaf32 {y : Int} (hp : leapB (y - 1) = false) (hl : leapB y = false) (hn : leapB (y + 1) = true) (hw : dd y % 7 = 4) (h0 : 13753 ≤ fp y) (h1 : fp y < 16404) : Kind y := by
  have e1 : y + 1 - 1 = y := by omega
  have n0 := ny_246 (y := y) (by omega)
  have s0 := dd_a (y := y) hl (by omega)
  have n1 := ny_1c (y := (y + 1)) (by omega) hn
  have q := b7_eq y
  exact Or.inl ⟨hl, Or.inl ⟨by omega, by omega⟩⟩
theorem k_leaf33 {y : Int} (hp : leapB (y - 1) = false) (hl : leapB y = false) (hn : leapB (y + 1) = true) (hw : dd y % 7 = 4) (h0 : 16404 ≤ fp y) (h1 : fp y < 19055) : Kind y := by
  have e1 : y + 1 - 1 = y := by omega
  have n0 := ny_246 (y := y) (by omega)
  have s0 := dd_b (y := y) hl (by omega)
  have n1 := ny_246 (y := (y + 1)) (by omega)
  have q := b7_eq y
  exact Or.inl ⟨hl, Or.inr (Or.inr ⟨by omega, by omega⟩)⟩
theorem k_leaf34 {y : Int} (hp : leapB (y - 1) = false) (hl : leapB y = false) (hn : leapB (y + 1) = true) (hw : dd y % 7 = 4) (h0 : 19055 ≤ fp y) (h1 : fp y < 23269) : Kind y := by
  have e1 : y + 1 - 1 = y := by omega
  have n0 := ny_246 (y := y) (by omega)
  have s0 := dd_b (y := y) hl (by omega)
  have n1 := ny_246 (y := (y + 1)) (by omega)
  have q := b7_eq y
  exact Or.inl ⟨hl, Or.inr (Or.inr ⟨by omega, by omega⟩)⟩
theorem k_leaf35 {y : Int} (hp : leapB (y - 1) = false) (hl : leapB y = false) (hn : leapB (y + 1) = true) (hw : dd y % 7 = 4) (h0 : 23269 ≤ fp y) (h1 : fp y < 25920) : Kind y := by
  have e1 : y + 1 - 1 = y := by omega
  have n0 := ny_246 (y := y) (by omega)
  have s0 := dd_b (y := y) hl (by omega)
  have n1 := ny_246 (y := (y + 1)) (by omega)
  have q := b7_eq y
  exact Or.inl ⟨hl, Or.inr (Or.inr ⟨by omega, by omega⟩)⟩
theorem k_leaf36 {y : Int} (hp : leapB (y - 1) = false) (hl : leapB y = false) (hn : leapB (y + 1) = true) (hw : dd y % 7 = 5) (h0 : 0 ≤ fp y) (h1 : fp y < 2651) : Kind y := by
  have e1 : y + 1 - 1 = y := by omega
  have n0 := ny_35 (y := y) (by omega)
  have s0 := dd_a (y := y) hl (by omega)
  have n1 := ny_246 (y := (y + 1)) (by omega)
  have q := b7_eq y
  exact Or.inl ⟨hl, Or.inr (Or.inr ⟨by omega, by omega⟩)⟩
theorem k_leaf37 {y : Int} (hp : leapB (y - 1) = false) (hl : leapB y = false) (hn : leapB (y + 1) = true) (hw : dd y % 7 = 5) (h0 : 2651 ≤ fp y) (h1 : fp y < 6888) : Kind y := by
  have e1 : y + 1 - 1 = y := by omega
  have n0 := ny_35 (y := y) (by omega)
  have s0 := dd_a (y := y) hl (by omega)
  have n1 := ny_246 (y := (y + 1)) (by omega)
  have q := b7_eq y
  exact Or.inl ⟨hl, Or.inr (Or.inr ⟨by omega, by omega⟩)⟩
theorem k_leaf38 {y : Int} (hp : leapB (y - 1) = false) (hl : leapB y = false) (hn : leapB (y + 1) = true) (hw : dd y % 7 = 5) (h0 : 6888 ≤ fp y) (h1 : fp y < 13753) : Kind y := by
  have e1 : y + 1 - 1 = y := by omega
  have n0 := ny_35 (y := y) (by omega)
  have s0 := dd_a (y := y) hl (by omega)
  have n1 := ny_246 (y := (y + 1)) (by omega)
  have q := b7_eq y
  exact Or.inl ⟨hl, Or.inr (Or.inr ⟨by omega, by omega⟩)⟩
theorem k_leaf39 {y : Int} (hp : leapB (y - 1) = false) (hl : leapB y = false) (hn : leapB (y + 1) = true) (hw : dd y % 7 = 5) (h0 : 13753 ≤ fp y) (h1 : fp y < 16404) : Kind y := by
  have e1 : y + 1 - 1 = y := by omega
  have n0 := ny_35 (y := y) (by omega)
  have s0 := dd_a (y := y) hl (by omega)
  have n1 := ny_246 (y := (y + 1)) (by omega)
  have q := b7_eq y
  exact Or.inl ⟨hl, Or.inr (Or.inr ⟨by omega, by omega⟩)⟩
theorem k_leaf40 {y : Int} (hp : leapB (y - 1) = false) (hl : leapB y = false) (hn : leapB (y + 1) = true) (hw : dd y % 7 = 5) (h0 : 16404 ≤ fp y) (h1 : fp y < 19055) : Kind y := by
  have e1 : y + 1 - 1 = y := by omega
  have n0 := ny_35 (y := y) (by omega)
  have s0 := dd_b (y := y) hl (by omega)
  have n1 := ny_35 (y := (y + 1)) (by omega)
  have q := b7_eq y
  exact Or.inl ⟨hl, Or.inr (Or.inr ⟨by omega, by omega⟩)⟩
theorem k_leaf41 {y : Int} (hp : leapB (y - 1) = false) (hl : leapB y = false) (hn : leapB (y + 1) = true) (hw : dd y % 7 = 5) (h0 : 19055 ≤ fp y) (h1 : fp y < 23269) : Kind y := by
  have e1 : y + 1 - 1 = y := by omega
  have n0 := ny_35 (y := y) (by omega)
  have s0 := dd_b (y := y) hl (by omega)
  have n1 := ny_35 (y := (y + 1)) (by omega)
  have q := b7_eq y
  exact Or.inl ⟨hl, Or.inr (Or.inr ⟨by omega, by omega⟩)⟩
theorem k_leaf42 {y : Int} (hp : leapB (y - 1) = false) (hl : leapB y = false) (hn : leapB (y + 1) = true) (hw : dd y % 7 = 5) (h0 : 23269 ≤ fp y) (h1 : fp y < 25920) : Kind y := by
  have e1 : y + 1 - 1 = y := by omega
  have n0 := ny_35 (y := y) (by omega)
  have s0 := dd_b (y := y) hl (by omega)
  have n1 := ny_35 (y := (y + 1)) (by omega)
  have q := b7_eq y
  exact Or.inl ⟨hl, Or.inr (Or.inr ⟨by omega, by omega⟩)⟩
theorem k_leaf43 {y : Int} (hp : leapB (y - 1) = false) (hl : leapB y = false) (hn : leapB (y + 1) = true) (hw : dd y % 7 = 6) (h0 : 0 ≤ fp y) (h1 : fp y < 2651) : Kind y := by
  have e1 : y + 1 - 1 = y := by omega
  have n0 := ny_246 (y := y) (by omega)
  have s0 := dd_a (y := y) hl (by omega)
  have n1 := ny_35 (y := (y + 1)) (by omega)
  have q := b7_eq y
  exact Or.inl ⟨hl, Or.inl ⟨by omega, by omega⟩⟩
theorem k_leaf44 {y : Int} (hp : leapB (y - 1) = false) (hl : leapB y = false) (hn : leapB (y + 1) = true) (hw : dd y % 7 = 6) (h0 : 2651 ≤ fp y) (h1 : fp y < 6888) : Kind y := by
  have e1 : y + 1 - 1 = y := by omega
  have n0 := ny_246 (y := y) (by omega)
  have s0 := dd_a (y := y) hl (by omega)
  have n1 := ny_35 (y := (y + 1)) (by omega)
  have q := b7_eq y
  exact Or.inl ⟨hl, Or.inl ⟨by omega, by omega⟩⟩
theorem k_leaf45 {y : Int} (hp : leapB (y - 1) = false) (hl : leapB y = false) (hn : leapB (y + 1) = true) (hw : dd y % 7 = 6) (h0 : 6888 ≤ fp y) (h1 : fp y < 13753) : Kind y := by
  have e1 : y + 1 - 1 = y := by omega
  have n0 := ny_246 (y := y) (by omega)
  have s0 := dd_a (y := y) hl (by omega)
  have n1 := ny_35 (y := (y + 1)) (by omega)
  have q := b7_eq y
  exact Or.inl ⟨hl, Or.inl ⟨by omega, by omega⟩⟩
theorem k_leaf46 {y : Int} (hp : leapB (y - 1) = false) (hl : leapB y = false) (hn : leapB (y + 1) = true) (hw : dd y % 7 = 6) (h0 : 13753 ≤ fp y) (h1 : fp y < 16404) : Kind y := by
  have e1 : y + 1 - 1 = y := by omega
  have n0 := ny_246 (y := y) (by omega)
  have s0 := dd_a (y := y) hl (by omega)
  have n1 := ny_35 (y := (y + 1)) (by omega)
  have q := b7_eq y
  exact Or.inl ⟨hl, Or.inl ⟨by omega, by omega⟩⟩
theorem k_leaf47 {y : Int} (hp : leapB (y - 1) = false) (hl : leapB y = false) (hn : leapB (y + 1) = true) (hw : dd y % 7 = 6) (h0 : 16404 ≤ fp y) (h1 : fp y < 19055) : Kind y := by
  have e1 : y + 1 - 1 = y := by omega
  have n0 := ny_246 (y := y) (by omega)
  have s0 := dd_b (y := y) hl (by omega)
  have n1 := ny_246 (y := (y + 1)) (by omega)
  have q := b7_eq y
  exact Or.inl ⟨hl, Or.inr (Or.inr ⟨by omega, by omega⟩)⟩
theorem k_leaf48 {y : Int} (hp : leapB (y - 1) = false) (hl : leapB y = false) (hn : leapB (y + 1) = true) (hw : dd y % 7 = 6) (h0 : 19055 ≤ fp y) (h1 : fp y < 23269) : Kind y := by
  have e1 : y + 1 - 1 = y := by omega
  have n0 := ny_246 (y := y) (by omega)
  have s0 := dd_b (y := y) hl (by omega)
  have n1 := ny_246 (y := (y + 1)) (by omega)
  have q := b7_eq y
  exact Or.inl ⟨hl, Or.inr (Or.inr ⟨by omega, by omega⟩)⟩
theorem k_leaf49 {y : Int} (hp : leapB (y - 1) = false) (hl : leapB y = false) (hn : leapB (y + 1) = true) (hw : dd y % 7 = 6) (h0 : 23269 ≤ fp y) (h1 : fp y < 25920) : Kind y := by
  have e1 : y + 1 - 1 = y := by omega
  have n0 := ny_246 (y := y) (by omega)
  have s0 := dd_b (y := y) hl (by omega)
  have n1 := ny_246 (y := (y + 1)) (by omega)
  have q := b7_eq y
  exact Or.inl ⟨hl, Or.inr (Or.inr ⟨by omega, by omega⟩)⟩
theorem k_fft {y : Int} (hp : leapB (y - 1) = false) (hl : leapB y = false) (hn : leapB (y + 1) = true) : Kind y := by
  have b0 := fp_bd y
  have hw : dd y % 7 = 0 ∨ dd y % 7 = 1 ∨ dd y % 7 = 2 ∨ dd y % 7 = 3 ∨ dd y % 7 = 4 ∨ dd y % 7 = 5 ∨ dd y % 7 = 6 := by omega
  have hi : (0 ≤ fp y ∧ fp y < 2651) ∨ (2651 ≤ fp y ∧ fp y < 6888) ∨ (6888 ≤ fp y ∧ fp y < 13753) ∨ (13753 ≤ fp y ∧ fp y < 16404) ∨ (16404 ≤ fp y ∧ fp y < 19055) ∨ (19055 ≤ fp y ∧ fp y < 23269) ∨ (23269 ≤ fp y ∧ fp y < 25920) := by omega
  rcases hw with hw | hw | hw | hw | hw | hw | hw <;> rcases hi with hi | hi | hi | hi | hi | hi | hi
  · exact k_leaf1 hp hl hn hw hi.1 hi.2
  · exact k_leaf2 hp hl hn hw hi.1 hi.2
  · exact k_leaf3 hp hl hn hw hi.1 hi.2
  · exact k_leaf4 hp hl hn hw hi.1 hi.2
  · exact k_leaf5 hp hl hn hw hi.1 hi.2
  · exact k_leaf6 hp hl hn hw hi.1 hi.2
  · exact k_leaf7 hp hl hn hw hi.1 hi.2
  · exact k_leaf8 hp hl hn hw hi.1 hi.2
  · exact k_leaf9 hp hl hn hw hi.1 hi.2
  · exact k_leaf10 hp hl hn hw hi.1 hi.2
  · exact k_leaf11 hp hl hn hw hi.1 hi.2
  · exact k_leaf12 hp hl hn hw hi.1 hi.2
  · exact k_leaf13 hp hl hn hw hi.1 hi.2
  · exact k_leaf14 hp hl hn hw hi.1 hi.2
  · exact k_leaf15 hp hl hn hw hi.1 hi.2
  · exact k_leaf16 hp hl hn hw hi.1 hi.2
  · exact k_leaf17 hp hl hn hw hi.1 hi.2
  · exact k_leaf18 hp hl hn hw hi.1 hi.2
  · exact k_leaf19 hp hl hn hw hi.1 hi.2
  · exact k_leaf20 hp hl hn hw hi.1 hi.2
  · exact k_leaf21 hp hl hn hw hi.1 hi.2
  · exact k_leaf22 hp hl hn hw hi.1 hi.2
  · exact k_leaf23 hp hl hn hw hi.1 hi.2
  · exact k_leaf24 hp hl hn hw hi.1 hi.2
  · exact k_leaf25 hp hl hn hw hi.1 hi.2
  · exact k_leaf26 hp hl hn hw hi.1 hi.2
  · exact k_leaf27 hp hl hn hw hi.1 hi.2
  · exact k_leaf28 hp hl hn hw hi.1 hi.2
  · exact k_leaf29 hp hl hn hw hi.1 hi.2
  · exact k_leaf30 hp hl hn hw hi.1 hi.2
  · exact k_leaf31 hp hl hn hw hi.1 hi.2
  · exact k_leaf32 hp hl hn hw hi.1 hi.2
  · exact k_leaf33 hp hl hn hw hi.1 hi.2
  · exact k_leaf34 hp hl hn hw hi.1 hi.2
  · exact k_leaf35 hp hl hn hw hi.1 hi.2
  · exact k_leaf36 hp hl hn hw hi.1 hi.2
  · exact k_leaf37 hp hl hn hw hi.1 hi.2
  · exact k_leaf38 hp hl hn hw hi.1 hi.2
  · exact k_leaf39 hp hl hn hw hi.1 hi.2
  · exact k_leaf40 hp hl hn hw hi.1 hi.2
  · exact k_leaf41 hp hl hn hw hi.1 hi.2
  · exact k_leaf42 hp hl hn hw hi.1 hi.2
  · exact k_leaf43 hp hl hn hw hi.1 hi.2
  · exact k_leaf44 hp hl hn hw hi.1 hi.2
  · exact k_leaf45 hp hl hn hw hi.1 hi.2
  · exact k_leaf46 hp hl hn hw hi.1 hi.2
  · exact k_leaf47 hp hl hn hw hi.1 hi.2
  · exact k_leaf48 hp hl hn hw hi.1 hi.2
  · exact k_leaf49 hp hl hn hw hi.1 hi.2
theorem k_leaf50 {y : Int} (hp : leapB (y - 1) = false) (hl : leapB y = true) (hn : leapB (y + 1) = false) (hw : dd y % 7 = 0) (h0 : 0 ≤ fp y) (h1 : fp y < 2651) : Kind y := by
  have e1 : y + 1 - 1 = y := by omega
  have n0 := ny_0c (y := y) (by omega) hp
  have s0 := dd_c (y := y) hl (by omega)
  have n1 := ny_35 (y := (y + 1)) (by omega)
  have q := b7_eq y
  exact Or.inr ⟨hl, Or.inl ⟨by omega, by omega⟩⟩
theorem k_leaf51 {y : Int} (hp : leapB (y - 1) = false) (hl : leapB y = true) (hn : leapB (y + 1) = false) (hw : dd y % 7 = 0) (h0 : 2651 ≤ fp y) (h1 : fp y < 5302) : Kind y := by
  have e1 : y + 1 - 1 = y := by omega
  have n0 := ny_0c (y := y) (by omega) hp
  have s0 := dd_d (y := y) hl (by omega)
  have n1 := ny_246 (y := (y + 1)) (by omega)
  have q := b7_eq y
  exact Or.inr ⟨hl, Or.inr (Or.inr ⟨by omega, by omega⟩)⟩
theorem k_leaf52 {y : Int} (hp : leapB (y - 1) = false) (hl : leapB y = true) (hn : leapB (y + 1) = false) (hw : dd y % 7 = 0) (h0 : 5302 ≤ fp y) (h1 : fp y < 16404) : Kind y := by
  have e1 : y + 1 - 1 = y := by omega
  have n0 := ny_0c (y := y) (by omega) hp
  have s0 := dd_d (y := y) hl (by omega)
  have n1 := ny_246 (y := (y + 1)) (by omega)
  have q := b7_eq y
  exact Or.inr ⟨hl, Or.inr (Or.inr ⟨by omega, by omega⟩)⟩
theorem k_leaf53 {y : Int} (hp : leapB (y - 1) = false) (hl : leapB y = true) (hn : leapB (y + 1) = false) (hw : dd y % 7 = 0) (h0 : 16404 ≤ fp y) (h1 : fp y < 19055) : Kind y := by
  have e1 : y + 1 - 1 = y := by omega
  have n0 := ny_0c (y := y) (by omega) hp
  have s0 := dd_d (y := y) hl (by omega)
  have n1 := ny_246 (y := (y + 1)) (by omega)
  have q := b7_eq y
  exact Or.inr ⟨hl, Or.inr (Or.inr ⟨by omega, by omega⟩)⟩
theorem k_leaf54 {y : Int} (hp : leapB (y - 1) = false) (hl : leapB y = true) (hn : leapB (y + 1) = false) (hw : dd y % 7 = 0) (h0 : 19055 ≤ fp y) (h1 : fp y < 23269) : Kind y := by
  have e1 : y + 1 - 1 = y := by omega
  have n0 := ny_0c (y := y) (by omega) hp
  have s0 := dd_d (y := y) hl (by omega)
  have n1 := ny_246 (y := (y + 1)) (by omega)
  have q := b7_eq y
  exact Or.inr ⟨hl, Or.inr (Or.inr ⟨by omega, by omega⟩)⟩
theorem k_leaf55 {y : Int} (hp : leapB (y - 1) = false) (hl : leapB y = true) (hn : leapB (y + 1) = false) (hw : dd y % 7 = 0) (h0 : 23269 ≤ fp y) (h1 : fp y < 25920) : Kind y := by
  have e1 : y + 1 - 1 = y := by omega
  have n0 := ny_0c (y := y) (by omega) hp
  have s0 := dd_d (y := y) hl (by omega)
  have n1 := ny_246 (y := (y + 1)) (by omega)
  have q := b7_eq y
  exact Or.inr ⟨hl, Or.inr (Or.inr ⟨by omega, by omega⟩)⟩
theorem k_leaf56 {y : Int} (hp : leapB (y - 1) = false) (hl : leapB y = true) (hn : leapB (y + 1) = false) (hw : dd y % 7 = 1) (h0 : 0 ≤ fp y) (h1 : fp y < 2651) : Kind y := by
  have e1 : y + 1 - 1 = y := by omega
  have n0 := ny_1c (y := y) (by omega) hl
  have s0 := dd_c (y := y) hl (by omega)
  have n1 := ny_246 (y := (y + 1)) (by omega)
  have q := b7_eq y
  exact Or.inr ⟨hl, Or.inr (Or.inl ⟨by omega, by omega⟩)⟩
theorem k_leaf57 {y : Int} (hp : leapB (y - 1) = false) (hl : leapB y = true) (hn : leapB (y + 1) = false) (hw : dd y % 7 = 1) (h0 : 2651 ≤ fp y) (h1 : fp y < 5302) : Kind y := by
  have e1 : y + 1 - 1 = y := by omega
  have n0 := ny_1c (y := y) (by omega) hl
  have s0 := dd_d (y := y) hl (by omega)
  have n1 := ny_0b (y := (y + 1)) (by omega) (by omega)
  have q := b7_eq y
  exact Or.inr ⟨hl, Or.inr (Or.inl ⟨by omega, by omega⟩)⟩
theorem k_leaf58 {y : Int} (hp : leapB (y - 1) = false) (hl : leapB y = true) (hn : leapB (y + 1) = false) (hw : dd y % 7 = 1) (h0 : 5302 ≤ fp y) (h1 : fp y < 16404) : Kind y := by
  have e1 : y + 1 - 1 = y := by omega
  have n0 := ny_1c (y := y) (by omega) hl
  have s0 := dd_d (y := y) hl (by omega)
  have n1 := ny_0b (y := (y + 1)) (by omega) (by omega)
  have q := b7_eq y
  exact Or.inr ⟨hl, Or.inr (Or.inl ⟨by omega, by omega⟩)⟩
theorem k_leaf59 {y : Int} (hp : leapB (y - 1) = false) (hl : leapB y = true) (hn : leapB (y + 1) = false) (hw : dd y % 7 = 1) (h0 : 16404 ≤ fp y) (h1 : fp y < 19055) : Kind y := by
  have e1 : y + 1 - 1 = y := by omega
  have n0 := ny_1c (y := y) (by omega) hl
  have s0 := dd_d (y := y) hl (by omega)
  have n1 := ny_0b (y := (y + 1)) (by omega) (by omega)
  have q := b7_eq y
  exact Or.inr ⟨hl, Or.inr (Or.inl ⟨by omega, by omega⟩)⟩
theorem k_leaf60 {y : Int} (hp : leapB (y - 1) = false) (hl : leapB y = true) (hn : leapB (y + 1) = false) (hw : dd y % 7 = 1) (h0 : 19055 ≤ fp y) (h1 : fp y < 23269) : Kind y := by
  have e1 : y + 1 - 1 = y := by omega
  have n0 := ny_1c (y := y) (by omega) hl
  have s0 := dd_d (y := y) hl (by omega)
  have n1 := ny_0b (y := (y + 1)) (by omega) (by omega)
  have q := b7_eq y
  exact Or.inr ⟨hl, Or.inr (Or.inl ⟨by omega, by omega⟩)⟩
theorem k_leaf61 {y : Int} (hp : leapB (y - 1) = false) (hl : leapB y = true) (hn : leapB (y + 1) = false) (hw : dd y % 7 = 1) (h0 : 23269 ≤ fp y) (h1 : fp y < 25920) : Kind y := by
  have e1 : y + 1 - 1 = y := by omega
  have n0 := ny_1c (y := y) (by omega) hl
  have s0 := dd_d (y := y) hl (by omega)
  have n1 := ny_0b (y := (y + 1)) (by omega) (by omega)
  have q := b7_eq y
  exact Or.inr ⟨hl, Or.inr (Or.inl ⟨by omega, by omega⟩)⟩
theorem k_leaf62 {y : Int} (hp : leapB (y - 1) = false) (hl : leapB y = true) (hn : leapB (y + 1) = false) (hw : dd y % 7 = 2) (h0 : 0 ≤ fp y) (h1 : fp y < 2651) : Kind y := by
  have e1 : y + 1 - 1 = y := by omega
  have n0 := ny_246 (y := y) (by omega)
  have s0 := dd_c (y := y) hl (by omega)
  have n1 := ny_0a (y := (y + 1)) (by omega) (by omega) (by rw [e1]; exact hl)
  have q := b7_eq y
  exact Or.inr ⟨hl, Or.inl ⟨by omega, by omega⟩⟩
theorem k_leaf63 {y : Int} (hp : leapB (y - 1) = false) (hl : leapB y = true) (hn : leapB (y + 1) = false) (hw : dd y % 7 = 2) (h0 : 2651 ≤ fp y) (h1 : fp y < 5302) : Kind y := by
  have e1 : y + 1 - 1 = y := by omega
  have n0 := ny_246 (y := y) (by omega)
  have s0 := dd_d (y := y) hl (by omega)
  have n1 := ny_1b (y := (y + 1)) (by omega) (by omega)
  have q := b7_eq y
  exact Or.inr ⟨hl, Or.inl ⟨by omega, by omega⟩⟩
theorem k_leaf64 {y : Int} (hp : leapB (y - 1) = false) (hl : leapB y = true) (hn : leapB (y + 1) = false) (hw : dd y % 7 = 2) (h0 : 5302 ≤ fp y) (h1 : fp y < 16404) : Kind y := by
  have e1 : y + 1 - 1 = y := by omega
  have n0 := ny_246 (y := y) (by omega)
  have s0 := dd_d (y := y) hl (by omega)
  have n1 := ny_1b (y := (y + 1)) (by omega) (by omega)
  have q := b7_eq y
  exact Or.inr ⟨hl, Or.inl ⟨by omega, by omega⟩⟩
theorem k_leaf65 {y : Int} (hp : leapB (y - 1) = false) (hl : leapB y = true) (hn : leapB (y + 1) = false) (hw : dd y % 7 = 2) (h0 : 16404 ≤ fp y) (h1 : fp y < 19055) : Kind y := by
  have e1 : y + 1 - 1 = y := by omega
  have n0 := ny_246 (y := y) (by omega)
  have s0 := dd_d (y := y) hl (by omega)
  have n1 := ny_1b (y := (y + 1)) (by omega) (by omega)
  have q := b7_eq y
  exact Or.inr ⟨hl, Or.inl ⟨by omega, by omega⟩⟩
theorem k_leaf66 {y : Int} (hp : leapB (y - 1) = false) (hl : leapB y = true) (hn : leapB (y + 1) = false) (hw : dd y % 7 = 2) (h0 : 19055 ≤ fp y) (h1 : fp y < 23269) : Kind y := by
  have e1 : y + 1 - 1 = y := by omega
  have n0 := ny_246 (y := y) (by omega)
  have s0 := dd_d (y := y) hl (by omega)
  have n1 := ny_1a (y := (y + 1)) (by omega) (by omega) hn
  have q := b7_eq y
  exact Or.inr ⟨hl, Or.inr (Or.inr ⟨by omega, by omega⟩)⟩
theorem k_leaf67 {y : Int} (hp : leapB (y - 1) = false) (hl : leapB y = true) (hn : leapB (y + 1) = false) (hw : dd y % 7 = 2) (h0 : 23269 ≤ fp y) (h1 : fp y < 25920) : Kind y := by
  have e1 : y + 1 - 1 = y := by omega
  have n0 := ny_246 (y := y) (by omega)
  have s0 := dd_d (y := y) hl (by omega)
  have n1 := ny_1a (y := (y + 1)) (by omega) (by omega) hn
  have q := b7_eq y
  exact Or.inr ⟨hl, Or.inr (Or.inr ⟨by omega, by omega⟩)⟩
theorem k_leaf68 {y : Int} (hp : leapB (y - 1) = false) (hl : leapB y = true) (hn : leapB (y + 1) = false) (hw : dd y % 7 = 3) (h0 : 0 ≤ fp y) (h1 : fp y < 2651) : Kind y := by
  have e1 : y + 1 - 1 = y := by omega
  have n0 := ny_35 (y := y) (by omega)
  have s0 := dd_c (y := y) hl (by omega)
  have n1 := ny_1a (y := (y + 1)) (by omega) (by omega) hn
  have q := b7_eq y
  exact Or.inr ⟨hl, Or.inr (Or.inr ⟨by omega, by omega⟩)⟩
theorem k_leaf69 {y : Int} (hp : leapB (y - 1) = false) (hl : leapB y = true) (hn : leapB (y + 1) = false) (hw : dd y % 7 = 3) (h0 : 2651 ≤ fp y) (h1 : fp y < 5302) : Kind y := by
  have e1 : y + 1 - 1 = y := by omega
  have n0 := ny_35 (y := y) (by omega)
  have s0 := dd_d (y := y) hl (by omega)
  have n1 := ny_246 (y := (y + 1)) (by omega)
  have q := b7_eq y
  exact Or.inr ⟨hl, Or.inr (Or.inr ⟨by omega, by omega⟩)⟩
theorem k_leaf70 {y : Int} (hp : leapB (y - 1) = false) (hl : leapB y = true) (hn : leapB (y + 1) = false) (hw : dd y % 7 = 3) (h0 : 5302 ≤ fp y) (h1 : fp y < 16404) : Kind y := by
  have e1 : y + 1 - 1 = y := by omega
  have n0 := ny_35 (y := y) (by omega)
  have s0 := dd_d (y := y) hl (by omega)
  have n1 := ny_246 (y := (y + 1)) (by omega)
  have q := b7_eq y
  exact Or.inr ⟨hl, Or.inr (Or.inr ⟨by omega, by omega⟩)⟩
theorem k_leaf71 {y : Int} (hp : leapB (y - 1) = false) (hl : leapB y = true) (hn : leapB (y + 1) = false) (hw : dd y % 7 = 3) (h0 : 16404 ≤ fp y) (h1 : fp y < 19055) : Kind y := by
  have e1 : y + 1 - 1 = y := by omega
  have n0 := ny_35 (y := y) (by omega)
  have s0 := dd_d (y := y) hl (by omega)
  have n1 := ny_246 (y := (y + 1)) (by omega)
  have q := b7_eq y
  exact Or.inr ⟨hl, Or.inr (Or.inr ⟨by omega, by omega⟩)⟩
theorem k_leaf72 {y : Int} (hp : leapB (y - 1) = false) (hl : leapB y = true) (hn : leapB (y + 1) = false) (hw : dd y % 7 = 3) (h0 : 19055 ≤ fp y) (h1 : fp y < 23269) : Kind y := by
  have e1 : y + 1 - 1 = y := by omega
  have n0 := ny_35 (y := y) (by omega)
  have s0 := dd_d (y := y) hl (by omega)
  have n1 := ny_246 (y := (y + 1)) (by omega)
  have q := b7_eq y
  exact Or.inr ⟨hl, Or.inr (Or.inr ⟨by omega, by omega⟩)⟩
theorem k_leaf73 {y : Int} (hp : leapB (y - 1) = false) (hl : leapB y = true) (hn : leapB (y + 1) = false) (hw : dd y % 7 = 3) (h0 : 23269 ≤ fp y) (h1 : fp y < 25920) : Kind y := by
  have e1 : y + 1 - 1 = y := by omega
  have n0 := ny_35 (y := y) (by omega)
  have s0 := dd_d (y := y) hl (by omega)
  have n1 := ny_246 (y := (y + 1)) (by omega)
  have q := b7_eq y
  exact Or.inr ⟨hl, Or.inr (Or.inr ⟨by omega, by omega⟩)⟩
theorem k_leaf74 {y : Int} (hp : leapB (y - 1) = false) (hl : leapB y = true) (hn : leapB (y + 1) = false) (hw : dd y % 7 = 4) (h0 : 0 ≤ fp y) (h1 : fp y < 2651) : Kind y := by
  have e1 : y + 1 - 1 = y := by omega
  have n0 := ny_246 (y := y) (by omega)
  have s0 := dd_c (y := y) hl (by omega)
  have n1 := ny_246 (y := (y + 1)) (by omega)
  have q := b7_eq y
  exact Or.inr ⟨hl, Or.inl ⟨by omega, by omega⟩⟩
theorem k_leaf75 {y : Int} (hp : leapB (y - 1) = false) (hl : leapB y = true) (hn : leapB (y + 1) = false) (hw : dd y % 7 = 4) (h0 : 2651 ≤ fp y) (h1 : fp y < 5302) : Kind y := by
  have e1 : y + 1 - 1 = y := by omega
  have n0 := ny_246 (y := y) (by omega)
  have s0 := dd_d (y := y) hl (by omega)
  have n1 := ny_35 (y := (y + 1)) (by omega)
  have q := b7_eq y
  exact Or.inr ⟨hl, Or.inl ⟨by omega, by omega⟩⟩
theorem k_leaf76 {y : Int} (hp : leapB (y - 1) = false) (hl : leapB y = true) (hn : leapB (y + 1) = false) (hw : dd y % 7 = 4) (h0 : 5302 ≤ fp y) (h1 : fp y < 16404) : Kind y := by
  have e1 : y + 1 - 1 = y := by omega
  have n0 := ny_246 (y := y) (by omega)
  have s0 := dd_d (y := y) hl (by omega)
  have n1 := ny_35 (y := (y + 1)) (by omega)
  have q := b7_eq y
  exact Or.inr ⟨hl, Or.inl ⟨by omega, by omega⟩⟩
theorem k_leaf77 {y : Int} (hp : leapB (y - 1) = false) (hl : leapB y = true) (hn : leapB (y + 1) = false) (hw : dd y % 7 = 4) (h0 : 16404 ≤ fp y) (h1 : fp y < 19055) : Kind y := by
  have e1 : y + 1 - 1 = y := by omega
  have n0 := ny_246 (y := y) (by omega)
  have s0 := dd_d (y := y) hl (by omega)
  have n1 := ny_35 (y := (y + 1)) (by omega)
  have q := b7_eq y
  exact Or.inr ⟨hl, Or.inl ⟨by omega, by omega⟩⟩
theorem k_leaf78 {y : Int} (hp : leapB (y - 1) = false) (hl : leapB y = true) (hn : leapB (y + 1) = false) (hw : dd y % 7 = 4) (h0 : 19055 ≤ fp y) (h1 : fp y < 23269) : Kind y := by
  have e1 : y + 1 - 1 = y := by omega
  have n0 := ny_246 (y := y) (by omega)
  have s0 := dd_d (y := y) hl (by omega)
  have n1 := ny_35 (y := (y + 1)) (by omega)
  have q := b7_eq y
  exact Or.inr ⟨hl, Or.inl ⟨by omega, by omega⟩⟩
theorem k_leaf79 {y : Int} (hp : leapB (y - 1) = false) (hl : leapB y = true) (hn : leapB (y + 1) = false) (hw : dd y % 7 = 4) (h0 : 23269 ≤ fp y) (h1 : fp y < 25920) : Kind y := by
  have e1 : y + 1 - 1 = y := by omega
  have n0 := ny_246 (y := y) (by omega)
  have s0 := dd_d (y := y) hl (by omega)
  have n1 := ny_35 (y := (y + 1)) (by omega)
  have q := b7_eq y
  exact Or.inr ⟨hl, Or.inl ⟨by omega, by omega⟩⟩
theorem k_leaf80 {y : Int} (hp : leapB (y - 1) = false) (hl : leapB y = true) (hn : leapB (y + 1) = false) (hw : dd y % 7 = 5) (h0 : 0 ≤ fp y) (h1 : fp y < 2651) : Kind y := by
  have e1 : y + 1 - 1 = y := by omega
  have n0 := ny_35 (y := y) (by omega)
  have s0 := dd_c (y := y) hl (by omega)
  have n1 := ny_35 (y := (y + 1)) (by omega)
  have q := b7_eq y
  exact Or.inr ⟨hl, Or.inl ⟨by omega, by omega⟩⟩
theorem k_leaf81 {y : Int} (hp : leapB (y - 1) = false) (hl : leapB y = true) (hn : leapB (y + 1) = false) (hw : dd y % 7 = 5) (h0 : 2651 ≤ fp y) (h1 : fp y < 5302) : Kind y := by
  have e1 : y + 1 - 1 = y := by omega
  have n0 := ny_35 (y := y) (by omega)
  have s0 := dd_d (y := y) hl (by omega)
  have n1 := ny_246 (y := (y + 1)) (by omega)
  have q := b7_eq y
  exact Or.inr ⟨hl, Or.inr (Or.inr ⟨by omega, by omega⟩)⟩
theorem k_leaf82 {y : Int} (hp : leapB (y - 1) = false) (hl : leapB y = true) (hn : leapB (y + 1) = false) (hw : dd y % 7 = 5) (h0 : 5302 ≤ fp y) (h1 : fp y < 16404) : Kind y := by
  have e1 : y + 1 - 1 = y := by omega
  have n0 := ny_35 (y := y) (by omega)
  have s0 := dd_d (y := y) hl (by omega)
  have n1 := ny_246 (y := (y + 1)) (by omega)
  have q := b7_eq y
  exact Or.inr ⟨hl, Or.inr (Or.inr ⟨by omega, by omega⟩)⟩
theorem k_leaf83 {y : Int} (hp : leapB (y - 1) = false) (hl : leapB y = true) (hn : leapB (y + 1) = false) (hw : dd y % 7 = 5) (h0 : 16404 ≤ fp y) (h1 : fp y < 19055) : Kind y := by
  have e1 : y + 1 - 1 = y := by omega
  have n0 := ny_35 (y := y) (by omega)
  have s0 := dd_d (y := y) hl (by omega)
  have n1 := ny_246 (y := (y + 1)) (by omega)
  have q := b7_eq y
  exact Or.inr ⟨hl, Or.inr (Or.inr ⟨by omega, by omega⟩)⟩
theorem k_leaf84 {y : Int} (hp : leapB (y - 1) = false) (hl : leapB y = true) (hn : leapB (y + 1) = false) (hw : dd y % 7 = 5) (h0 : 19055 ≤ fp y) (h1 : fp y < 23269) : Kind y := by
  have e1 : y + 1 - 1 = y := by omega
  have n0 := ny_35 (y := y) (by omega)
  have s0 := dd_d (y := y) hl (by omega)
  have n1 := ny_246 (y := (y + 1)) (by omega)
  have q := b7_eq y
  exact Or.inr ⟨hl, Or.inr (Or.inr ⟨by omega, by omega⟩)⟩
theorem k_leaf85 {y : Int} (hp : leapB (y - 1) = false) (hl : leapB y = true) (hn : leapB (y + 1) = false) (hw : dd y % 7 = 5) (h0 : 23269 ≤ fp y) (h1 : fp y < 25920) : Kind y := by
  have e1 : y + 1 - 1 = y := by omega
  have n0 := ny_35 (y := y) (by omega)
  have s0 := dd_d (y := y) hl (by omega)
  have n1 := ny_246 (y := (y + 1)) (by omega)
  have q := b7_eq y
  exact Or.inr ⟨hl, Or.inr (Or.inr ⟨by omega, by omega⟩)⟩
theorem k_leaf86 {y : Int} (hp : leapB (y - 1) = false) (hl : leapB y = true) (hn : leapB (y + 1) = false) (hw : dd y % 7 = 6) (h0 : 0 ≤ fp y) (h1 : fp y < 2651) : Kind y := by
  have e1 : y + 1 - 1 = y := by omega
  have n0 := ny_246 (y := y) (by omega)
  have s0 := dd_c (y := y) hl (by omega)
  have n1 := ny_246 (y := (y + 1)) (by omega)
  have q := b7_eq y
  exact Or.inr ⟨hl, Or.inl ⟨by omega, by omega⟩⟩
theorem k_leaf87 {y : Int} (hp : leapB (y - 1) = false) (hl : leapB y = true) (hn : leapB (y + 1) = false) (hw : dd y % 7 = 6) (h0 : 2651 ≤ fp y) (h1 : fp y < 5302) : Kind y := by
  have e1 : y + 1 - 1 = y := by omega
  have n0 := ny_246 (y := y) (by omega)
  have s0 := dd_d (y := y) hl (by omega)
  have n1 := ny_35 (y := (y + 1)) (by omega)
  have q := b7_eq y
  exact Or.inr ⟨hl, Or.inl ⟨by omega, by omega⟩⟩
theorem k_leaf88 {y : Int} (hp : leapB (y - 1) = false) (hl : leapB y = true) (hn : leapB (y + 1) = false) (hw : dd y % 7 = 6) (h0 : 5302 ≤ fp y) (h1 : fp y < 16404) : Kind y := by
  have e1 : y + 1 - 1 = y := by omega
  have n0 := ny_246 (y := y) (by omega)
  have s0 := dd_d (y := y) hl (by omega)
  have n1 := ny_35 (y := (y + 1)) (by omega)
  have q := b7_eq y
  exact Or.inr ⟨hl, Or.inl ⟨by omega, by omega⟩⟩
theorem k_leaf89 {y : Int} (hp : leapB (y - 1) = false) (hl : leapB y = true) (hn : leapB (y + 1) = false) (hw : dd y % 7 = 6) (h0 : 16404 ≤ fp y) (h1 : fp y < 19055) : Kind y := by
  have e1 : y + 1 - 1 = y := by omega
  have n0 := ny_246 (y := y) (by omega)
  have s0 := dd_d (y := y) hl (by omega)
  have n1 := ny_35 (y := (y + 1)) (by omega)
  have q := b7_eq y
  exact Or.inr ⟨hl, Or.inl ⟨by omega, by omega⟩⟩
theorem k_leaf90 {y : Int} (hp : leapB (y - 1) = false) (hl : leapB y = true) (hn : leapB (y + 1) = false) (hw : dd y % 7 = 6) (h0 : 19055 ≤ fp y) (h1 : fp y < 23269) : Kind y := by
  have e1 : y + 1 - 1 = y := by omega
  have n0 := ny_246 (y := y) (by omega)
  have s0 := dd_d (y := y) hl (by omega)
  have n1 := ny_35 (y := (y + 1)) (by omega)
  have q := b7_eq y
  exact Or.inr ⟨hl, Or.inl ⟨by omega, by omega⟩⟩
theorem k_leaf91 {y : Int} (hp : leapB (y - 1) = false) (hl : leapB y = true) (hn : leapB (y + 1) = false) (hw : dd y % 7 = 6) (h0 : 23269 ≤ fp y) (h1 : fp y < 25920) : Kind y := by
  have e1 : y + 1 - 1 = y := by omega
  have n0 := ny_246 (y := y) (by omega)
  have s0 := dd_d (y := y) hl (by omega)
  have n1 := ny_35 (y := (y + 1)) (by omega)
  have q := b7_eq y
  exact Or.inr ⟨hl, Or.inl ⟨by omega, by omega⟩⟩
theorem k_ftf {y : Int} (hp : leapB (y - 1) = false) (hl : leapB y = true) (hn : leapB (y + 1) = false) : Kind y := by
  have b0 := fp_bd y
  have hw : dd y % 7 = 0 ∨ dd y % 7 = 1 ∨ dd y % 7 = 2 ∨ dd y % 7 = 3 ∨ dd y % 7 = 4 ∨ dd y % 7 = 5 ∨ dd y % 7 = 6 := by omega
  have hi : (0 ≤ fp y ∧ fp y < 2651) ∨ (2651 ≤ fp y ∧ fp y < 5302) ∨ (5302 ≤ fp y ∧ fp y < 16404) ∨ (16404 ≤ fp y ∧ fp y < 19055) ∨ (19055 ≤ fp y ∧ fp y < 23269) ∨ (23269 ≤ fp y ∧ fp y < 25920) := by omega
  rcases hw with hw | hw | hw | hw | hw | hw | hw <;> rcases hi with hi | hi | hi | hi | hi | hi
  · exact k_leaf50 hp hl hn hw hi.1 hi.2
  · exact k_leaf51 hp hl hn hw hi.1 hi.2
  · exact k_leaf52 hp hl hn hw hi.1 hi.2
  · exact k_leaf53 hp hl hn hw hi.1 hi.2
  · exact k_leaf54 hp hl hn hw hi.1 hi.2
  · exact k_leaf55 hp hl hn hw hi.1 hi.2
  · exact k_leaf56 hp hl hn hw hi.1 hi.2
  · exact k_leaf57 hp hl hn hw hi.1 hi.2
  · exact k_leaf58 hp hl hn hw hi.1 hi.2
  · exact k_leaf59 hp hl hn hw hi.1 hi.2
  · exact k_leaf60 hp hl hn hw hi.1 hi.2
  · exact k_leaf61 hp hl hn hw hi.1 hi.2
  · exact k_leaf62 hp hl hn hw hi.1 hi.2
  · exact k_leaf63 hp hl hn hw hi.1 hi.2
  · exact k_leaf64 hp hl hn hw hi.1 hi.2
  · exact k_leaf65 hp hl hn hw hi.1 hi.2
  · exact k_leaf66 hp hl hn hw hi.1 hi.2
  · exact k_leaf67 hp hl hn hw hi.1 hi.2
  · exact k_leaf68 hp hl hn hw hi.1 hi.2
  · exact k_leaf69 hp hl hn hw hi.1 hi.2
  · exact k_leaf70 hp hl hn hw hi.1 hi.2
  · exact k_leaf71 hp hl hn hw hi.1 hi.2
  · exact k_leaf72 hp hl hn hw hi.1 hi.2
  · exact k_leaf73 hp hl hn hw hi.1 hi.2
  · exact k_leaf74 hp hl hn hw hi.1 hi.2
  · exact k_leaf75 hp hl hn hw hi.1 hi.2
  · exact k_leaf76 hp hl hn hw hi.1 hi.2
  · exact k_leaf77 hp hl hn hw hi.1 hi.2
  · exact k_leaf78 hp hl hn hw hi.1 hi.2
  · exact k_leaf79 hp hl hn hw hi.1 hi.2
  · exact k_leaf80 hp hl hn hw hi.1 hi.2
  · exact k_leaf81 hp hl hn hw hi.1 hi.2
  · exact k_leaf82 hp hl hn hw hi.1 hi.2
  · exact k_leaf83 hp hl hn hw hi.1 hi.2
  · exact k_leaf84 hp hl hn hw hi.1 hi.2
  · exact k_leaf85 hp hl hn hw hi.1 hi.2
  · exact k_leaf86 hp hl hn hw hi.1 hi.2
  · exact k_leaf87 hp hl hn hw hi.1 hi.2
  · exact k_leaf88 hp hl hn hw hi.1 hi.2
  · exact k_leaf89 hp hl hn hw hi.1 hi.2
  · exact k_leaf90 hp hl hn hw hi.1 hi.2
  · exact k_leaf91 hp hl hn hw hi.1 hi.2
theorem k_leaf92 {y : Int} (hp : leapB (y - 1) = true) (hl : leapB y = false) (hn : leapB (y + 1) = false) (hw : dd y % 7 = 0) (h0 : 0 ≤ fp y) (h1 : fp y < 2651) : Kind y := by
  have e1 : y + 1 - 1 = y := by omega
  have n0 := ny_0b (y := y) (by omega) (by omega)
  have s0 := dd_a (y := y) hl (by omega)
  have n1 := ny_246 (y := (y + 1)) (by omega)
  have q := b7_eq y
  exact Or.inl ⟨hl, Or.inr (Or.inr ⟨by omega, by omega⟩)⟩
theorem k_leaf93 {y : Int} (hp : leapB (y - 1) = true) (hl : leapB y = false) (hn : leapB (y + 1) = false) (hw : dd y % 7 = 0) (h0 : 2651 ≤ fp y) (h1 : fp y < 6888) : Kind y := by
  have e1 : y + 1 - 1 = y := by omega
  have n0 := ny_0b (y := y) (by omega) (by omega)
  have s0 := dd_a (y := y) hl (by omega)
  have n1 := ny_246 (y := (y + 1)) (by omega)
  have q := b7_eq y
  exact Or.inl ⟨hl, Or.inr (Or.inr ⟨by omega, by omega⟩)⟩
theorem k_leaf94 {y : Int} (hp : leapB (y - 1) = true) (hl : leapB y = false) (hn : leapB (y + 1) = false) (hw : dd y % 7 = 0) (h0 : 6888 ≤ fp y) (h1 : fp y < 13753) : Kind y := by
  have e1 : y + 1 - 1 = y := by omega
  have n0 := ny_0b (y := y) (by omega) (by omega)
  have s0 := dd_a (y := y) hl (by omega)
  have n1 := ny_246 (y := (y + 1)) (by omega)
  have q := b7_eq y
  exact Or.inl ⟨hl, Or.inr (Or.inr ⟨by omega, by omega⟩)⟩
theorem k_leaf95 {y : Int} (hp : leapB (y - 1) = true) (hl : leapB y = false) (hn : leapB (y + 1) = false) (hw : dd y % 7 = 0) (h0 : 13753 ≤ fp y) (h1 : fp y < 16404) : Kind y := by
  have e1 : y + 1 - 1 = y := by omega
  have n0 := ny_0b (y := y) (by omega) (by omega)
  have s0 := dd_a (y := y) hl (by omega)
  have n1 := ny_246 (y := (y + 1)) (by omega)
  have q := b7_eq y
  exact Or.inl ⟨hl, Or.inr (Or.inr ⟨by omega, by omega⟩)⟩
theorem k_leaf96 {y : Int} (hp : leapB (y - 1) = true) (hl : leapB y = false) (hn : leapB (y + 1) = false) (hw : dd y % 7 = 0) (h0 : 16404 ≤ fp y) (h1 : fp y < 19055) : Kind y := by
  have e1 : y + 1 - 1 = y := by omega
  have n0 := ny_0b (y := y) (by omega) (by omega)
  have s0 := dd_b (y := y) hl (by omega)
  have n1 := ny_35 (y := (y + 1)) (by omega)
  have q := b7_eq y
  exact Or.inl ⟨hl, Or.inr (Or.inr ⟨by omega, by omega⟩)⟩
theorem k_leaf97 {y : Int} (hp : leapB (y - 1) = true) (hl : leapB y = false) (hn : leapB (y + 1) = false) (hw : dd y % 7 = 0) (h0 : 19055 ≤ fp y) (h1 : fp y < 23269) : Kind y := by
  have e1 : y + 1 - 1 = y := by omega
  have n0 := ny_0b (y := y) (by omega) (by omega)
  have s0 := dd_b (y := y) hl (by omega)
  have n1 := ny_35 (y := (y + 1)) (by omega)
  have q := b7_eq y
  exact Or.inl ⟨hl, Or.inr (Or.inr ⟨by omega, by omega⟩)⟩
theorem k_leaf98 {y : Int} (hp : leapB (y - 1) = true) (hl : leapB y = false) (hn : leapB (y + 1) = false) (hw : dd y % 7 = 0) (h0 : 23269 ≤ fp y) (h1 : fp y < 25920) : Kind y := by
  have e1 : y + 1 - 1 = y := by omega
  have n0 := ny_0a (y := y) (by omega) (by omega) hp
  have s0 := dd_b (y := y) hl (by omega)
  have n1 := ny_35 (y := (y + 1)) (by omega)
  have q := b7_eq y
  exact Or.inl ⟨hl, Or.inr (Or.inl ⟨by omega, by omega⟩)⟩
theorem k_leaf99 {y : Int} (hp : leapB (y - 1) = true) (hl : leapB y = false) (hn : leapB (y + 1) = false) (hw : dd y % 7 = 1) (h0 : 0 ≤ fp y) (h1 : fp y < 2651) : Kind y := by
  have e1 : y + 1 - 1 = y := by omega
  have n0 := ny_1b (y := y) (by omega) (by omega)
  have s0 := dd_a (y := y) hl (by omega)
  have n1 := ny_35 (y := (y + 1)) (by omega)
  have q := b7_eq y
  exact Or.inl ⟨hl, Or.inr (Or.inl ⟨by omega, by omega⟩)⟩
theorem k_leaf100 {y : Int} (hp : leapB (y - 1) = true) (hl : leapB y = false) (hn : leapB (y + 1) = false) (hw : dd y % 7 = 1) (h0 : 2651 ≤ fp y) (h1 : fp y < 6888) : Kind y := by
  have e1 : y + 1 - 1 = y := by omega
  have n0 := ny_1b (y := y) (by omega) (by omega)
  have s0 := dd_a (y := y) hl (by omega)
  have n1 := ny_35 (y := (y + 1)) (by omega)
  have q := b7_eq y
  exact Or.inl ⟨hl, Or.inr (Or.inl ⟨by omega, by omega⟩)⟩
theorem k_leaf101 {y : Int} (hp : leapB (y - 1) = true) (hl : leapB y = false) (hn : leapB (y + 1) = false) (hw : dd y % 7 = 1) (h0 : 6888 ≤ fp y) (h1 : fp y < 13753) : Kind y := by
  have e1 : y + 1 - 1 = y := by omega
  have n0 := ny_1b (y := y) (by omega) (by omega)
  have s0 := dd_a (y := y) hl (by omega)
  have n1 := ny_35 (y := (y + 1)) (by omega)
  have q := b7_eq y
  exact Or.inl ⟨hl, Or.inr (Or.inl ⟨by omega, by omega⟩)⟩
theorem k_leaf102 {y : Int} (hp : leapB (y - 1) = true) (hl : leapB y = false) (hn : leapB (y + 1) = false) (hw : dd y % 7 = 1) (h0 : 13753 ≤ fp y) (h1 : fp y < 16404) : Kind y := by
  have e1 : y + 1 - 1 = y := by omega
  have n0 := ny_1b (y := y) (by omega) (by omega)
  have s0 := dd_a (y := y) hl (by omega)
  have n1 := ny_35 (y := (y + 1)) (by omega)
  have q := b7_eq y
  exact Or.inl ⟨hl, Or.inr (Or.inl ⟨by omega, by omega⟩)⟩
theorem k_leaf103 {y : Int} (hp : leapB (y - 1) = true) (hl : leapB y = false) (hn : leapB (y + 1) = false) (hw : dd y % 7 = 1) (h0 : 16404 ≤ fp y) (h1 : fp y < 19055) : Kind y := by
  have e1 : y + 1 - 1 = y := by omega
  have n0 := ny_1a (y := y) (by omega) (by omega) hl
  have s0 := dd_b (y := y) hl (by omega)
  have n1 := ny_246 (y := (y + 1)) (by omega)
  have q := b7_eq y
  exact Or.inl ⟨hl, Or.inr (Or.inl ⟨by omega, by omega⟩)⟩
theorem k_leaf104 {y : Int} (hp : leapB (y - 1) = true) (hl : leapB y = false) (hn : leapB (y + 1) = false) (hw : dd y % 7 = 1) (h0 : 19055 ≤ fp y) (h1 : fp y < 23269) : Kind y := by
  have e1 : y + 1 - 1 = y := by omega
  have n0 := ny_1a (y := y) (by omega) (by omega) hl
  have s0 := dd_b (y := y) hl (by omega)
  have n1 := ny_246 (y := (y + 1)) (by omega)
  have q := b7_eq y
  exact Or.inl ⟨hl, Or.inr (Or.inl ⟨by omega, by omega⟩)⟩
theorem k_leaf105 {y : Int} (hp : leapB (y - 1) = true) (hl : leapB y = false) (hn : leapB (y + 1) = false) (hw : dd y % 7 = 1) (h0 : 23269 ≤ fp y) (h1 : fp y < 25920) : Kind y := by
  have e1 : y + 1 - 1 = y := by omega
  have n0 := ny_1a (y := y) (by omega) (by omega) hl
  have s0 := dd_b (y := y) hl (by omega)
  have n1 := ny_246 (y := (y + 1)) (by omega)
  have q := b7_eq y
  exact Or.inl ⟨hl, Or.inr (Or.inl ⟨by omega, by omega⟩)⟩
theorem k_leaf106 {y : Int} (hp : leapB (y - 1) = true) (hl : leapB y = false) (hn : leapB (y + 1) = false) (hw : dd y % 7 = 2) (h0 : 0 ≤ fp y) (h1 : fp y < 2651) : Kind y := by
  have e1 : y + 1 - 1 = y := by omega
  have n0 := ny_246 (y := y) (by omega)
  have s0 := dd_a (y := y) hl (by omega)
  have n1 := ny_246 (y := (y + 1)) (by omega)
  have q := b7_eq y
  exact Or.inl ⟨hl, Or.inr (Or.inl ⟨by omega, by omega⟩)⟩
theorem k_leaf107 {y : Int} (hp : leapB (y - 1) = true) (hl : leapB y = false) (hn : leapB (y + 1) = false) (hw : dd y % 7 = 2) (h0 : 2651 ≤ fp y) (h1 : fp y < 6888) : Kind y := by
  have e1 : y + 1 - 1 = y := by omega
  have n0 := ny_246 (y := y) (by omega)
  have s0 := dd_a (y := y) hl (by omega)
  have n1 := ny_246 (y := (y + 1)) (by omega)
  have q := b7_eq y
  exact Or.inl ⟨hl, Or.inr (Or.inl ⟨by omega, by omega⟩)⟩
theorem k_leaf108 {y : Int} (hp : leapB (y - 1) = true) (hl : leapB y = false) (hn : leapB (y + 1) = false) (hw : dd y % 7 = 2) (h0 : 6888 ≤ fp y) (h1 : fp y < 13753) : Kind y := by
  have e1 : y + 1 - 1 = y := by omega
  have n0 := ny_246 (y := y) (by omega)
  have s0 := dd_a (y := y) hl (by omega)
  have n1 := ny_246 (y := (y + 1)) (by omega)
  have q := b7_eq y
  exact Or.inl ⟨hl, Or.inr (Or.inl ⟨by omega, by omega⟩)⟩
theorem k_leaf109 {y : Int} (hp : leapB (y - 1) = true) (hl : leapB y = false) (hn : leapB (y + 1) = false) (hw : dd y % 7 = 2) (h0 : 13753 ≤ fp y) (h1 : fp y < 16404) : Kind y := by
  have e1 : y + 1 - 1 = y := by omega
  have n0 := ny_246 (y := y) (by omega)
  have s0 := dd_a (y := y) hl (by omega)
  have n1 := ny_246 (y := (y + 1)) (by omega)
  have q := b7_eq y
  exact Or.inl ⟨hl, Or.inr (Or.inl ⟨by omega, by omega⟩)⟩
theorem k_leaf110 {y : Int} (hp : leapB (y - 1) = true) (hl : leapB y = false) (hn : leapB (y + 1) = false) (hw : dd y % 7 = 2) (h0 : 16404 ≤ fp y) (h1 : fp y < 19055) : Kind y := by
  have e1 : y + 1 - 1 = y := by omega
  have n0 := ny_246 (y := y) (by omega)
  have s0 := dd_b (y := y) hl (by omega)
  have n1 := ny_0c (y := (y + 1)) (by omega) (by rw [e1]; exact hl)
  have q := b7_eq y
  exact Or.inl ⟨hl, Or.inr (Or.inl ⟨by omega, by omega⟩)⟩
theorem k_leaf111 {y : Int} (hp : leapB (y - 1) = true) (hl : leapB y = false) (hn : leapB (y + 1) = false) (hw : dd y % 7 = 2) (h0 : 19055 ≤ fp y) (h1 : fp y < 23269) : Kind y := by
  have e1 : y + 1 - 1 = y := by omega
  have n0 := ny_246 (y := y) (by omega)
  have s0 := dd_b (y := y) hl (by omega)
  have n1 := ny_0c (y := (y + 1)) (by omega) (by rw [e1]; exact hl)
  have q := b7_eq y
  exact Or.inl ⟨hl, Or.inr (Or.inl ⟨by omega, by omega⟩)⟩
theorem k_leaf112 {y : Int} (hp : leapB (y - 1) = true) (hl : leapB y = false) (hn : leapB (y + 1) = false) (hw : dd y % 7 = 2) (h0 : 23269 ≤ fp y) (h1 : fp y < 25920) : Kind y := by
  have e1 : y + 1 - 1 = y := by omega
  have n0 := ny_246 (y := y) (by omega)
  have s0 := dd_b (y := y) hl (by omega)
  have n1 := ny_0c (y := (y + 1)) (by omega) (by rw [e1]; exact hl)
  have q := b7_eq y
  exact Or.inl ⟨hl, Or.inr (Or.inl ⟨by omega, by omega⟩)⟩
theorem k_leaf113 {y : Int} (hp : leapB (y - 1) = true) (hl : leapB y = false) (hn : leapB (y + 1) = false) (hw : dd y % 7 = 3) (h0 : 0 ≤ fp y) (h1 : fp y < 2651) : Kind y := by
  have e1 : y + 1 - 1 = y := by omega
  have n0 := ny_35 (y := y) (by omega)
  have s0 := dd_a (y := y) hl (by omega)
  have n1 := ny_0c (y := (y + 1)) (by omega) (by rw [e1]; exact hl)
  have q := b7_eq y
  exact Or.inl ⟨hl, Or.inr (Or.inl ⟨by omega, by omega⟩)⟩
theorem k_leaf114 {y : Int} (hp : leapB (y - 1) = true) (hl : leapB y = false) (hn : leapB (y + 1) = false) (hw : dd y % 7 = 3) (h0 : 2651 ≤ fp y) (h1 : fp y < 6888) : Kind y := by
  have e1 : y + 1 - 1 = y := by omega
  have n0 := ny_35 (y := y) (by omega)
  have s0 := dd_a (y := y) hl (by omega)
  have n1 := ny_0c (y := (y + 1)) (by omega) (by rw [e1]; exact hl)
  have q := b7_eq y
  exact Or.inl ⟨hl, Or.inr (Or.inl ⟨by omega, by omega⟩)⟩
theorem k_leaf115 {y : Int} (hp : leapB (y - 1) = true) (hl : leapB y = false) (hn : leapB (y + 1) = false) (hw : dd y % 7 = 3) (h0 : 6888 ≤ fp y) (h1 : fp y < 13753) : Kind y := by
  have e1 : y + 1 - 1 = y := by omega
  have n0 := ny_35 (y := y) (by omega)
  have s0 := dd_a (y := y) hl (by omega)
  have n1 := ny_0c (y := (y + 1)) (by omega) (by rw [e1]; exact hl)
  have q := b7_eq y
  exact Or.inl ⟨hl, Or.inr (Or.inl ⟨by omega, by omega⟩)⟩
theorem k_leaf116 {y : Int} (hp : leapB (y - 1) = true) (hl : leapB y = false) (hn : leapB (y + 1) = false) (hw : dd y % 7 = 3) (h0 : 13753 ≤ fp y) (h1 : fp y < 16404) : Kind y := by
  have e1 : y + 1 - 1 = y := by omega
  have n0 := ny_35 (y := y) (by omega)
  have s0 := dd_a (y := y) hl (by omega)
  have n1 := ny_0c (y := (y + 1)) (by omega) (by rw [e1]; exact hl)
  have q := b7_eq y
  exact Or.inl ⟨hl, Or.inr (Or.inl ⟨by omega, by omega⟩)⟩
theorem k_leaf117 {y : Int} (hp : leapB (y - 1) = true) (hl : leapB y = false) (hn : leapB (y + 1) = false) (hw : dd y % 7 = 3) (h0 : 16404 ≤ fp y) (h1 : fp y < 19055) : Kind y := by
  have e1 : y + 1 - 1 = y := by omega
  have n0 := ny_35 (y := y) (by omega)
  have s0 := dd_b (y := y) hl (by omega)
  have n1 := ny_1b (y := (y + 1)) (by omega) (by omega)
  have q := b7_eq y
  exact Or.inl ⟨hl, Or.inr (Or.inr ⟨by omega, by omega⟩)⟩
theorem k_leaf118 {y : Int} (hp : leapB (y - 1) = true) (hl : leapB y = false) (hn : leapB (y + 1) = false) (hw : dd y % 7 = 3) (h0 : 19055 ≤ fp y) (h1 : fp y < 23269) : Kind y := by
  have e1 : y + 1 - 1 = y := by omega
  have n0 := ny_35 (y := y) (by omega)
  have s0 := dd_b (y := y) hl (by omega)
  have n1 := ny_1b (y := (y + 1)) (by omega) (by omega)
  have q := b7_eq y
  exact Or.inl ⟨hl, Or.inr (Or.inr ⟨by omega, by omega⟩)⟩
theorem k_leaf119 {y : Int} (hp : leapB (y - 1) = true) (hl : leapB y = false) (hn : leapB (y + 1) = false) (hw : dd y % 7 = 3) (h0 : 23269 ≤ fp y) (h1 : fp y < 25920) : Kind y := by
  have e1 : y + 1 - 1 = y := by omega
  have n0 := ny_35 (y := y) (by omega)
  have s0 := dd_b (y := y) hl (by omega)
  have n1 := ny_1b (y := (y + 1)) (by omega) (by omega)
  have q := b7_eq y
  exact Or.inl ⟨hl, Or.inr (Or.inr ⟨by omega, by omega⟩)⟩
theorem k_leaf120 {y : Int} (hp : leapB (y - 1) = true) (hl : leapB y = false) (hn : leapB (y + 1) = false) (hw : dd y % 7 = 4) (h0 : 0 ≤ fp y) (h1 : fp y < 2651) : Kind y := by
  have e1 : y + 1 - 1 = y := by omega
  have n0 := ny_246 (y := y) (by omega)
  have s0 := dd_a (y := y) hl (by omega)
  have n1 := ny_1b (y := (y + 1)) (by omega) (by omega)
  have q := b7_eq y
  exact Or.inl ⟨hl, Or.inl ⟨by omega, by omega⟩⟩
theorem k_leaf121 {y : Int} (hp : leapB (y - 1) = true) (hl : leapB y = false) (hn : leapB (y + 1) = false) (hw : dd y % 7 = 4) (h0 : 2651 ≤ fp y) (h1 : fp y < 6888) : Kind y := by
  have e1 : y + 1 - 1 = y := by omega
  have n0 := ny_246 (y := y) (by omega)
  have s0 := dd_a (y := y) hl (by omega)
  have n1 := ny_1b (y := (y + 1)) (by omega) (by omega)
  have q := b7_eq y
  exact Or.inl ⟨hl, Or.inl ⟨by omega, by omega⟩⟩
theorem k_leaf122 {y : Int} (hp : leapB (y - 1) = true) (hl : leapB y = false) (hn : leapB (y + 1) = false) (hw : dd y % 7 = 4) (h0 : 6888 ≤ fp y) (h1 : fp y < 13753) : Kind y := by
  have e1 : y + 1 - 1 = y := by omega
  have n0 := ny_246 (y := y) (by omega)
  have s0 := dd_a (y := y) hl (by omega)
  have n1 := ny_1a (y := (y + 1)) (by omega) (by omega) hn
  have q := b7_eq y
  exact Or.inl ⟨hl, Or.inr (Or.inr ⟨by omega, by omega⟩)⟩
theorem k_leaf123 {y : Int} (hp : leapB (y - 1) = true) (hl : leapB y = false) (hn : leapB (y + 1) = false) (hw : dd y % 7 = 4) (h0 : 13753 ≤ fp y) (h1 : fp y < 16404) : Kind y := by
  have e1 : y + 1 - 1 = y := by omega
  have n0 := ny_246 (y := y) (by omega)
  have s0 := dd_a (y := y) hl (by omega)
  have n1 := ny_1a (y := (y + 1)) (by omega) (by omega) hn
  have q := b7_eq y
  exact Or.inl ⟨hl, Or.inr (Or.inr ⟨by omega, by omega⟩)⟩
theorem k_leaf124 {y : Int} (hp : leapB (y - 1) = true) (hl : leapB y = false) (hn : leapB (y + 1) = false) (hw : dd y % 7 = 4) (h0 : 16404 ≤ fp y) (h1 : fp y < 19055) : Kind y := by
  have e1 : y + 1 - 1 = y := by omega
  have n0 := ny_246 (y := y) (by omega)
  have s0 := dd_b (y := y) hl (by omega)
  have n1 := ny_246 (y := (y + 1)) (by omega)
  have q := b7_eq y
  exact Or.inl ⟨hl, Or.inr (Or.inr ⟨by omega, by omega⟩)⟩
theorem k_leaf125 {y : Int} (hp : leapB (y - 1) = true) (hl : leapB y = false) (hn : leapB (y + 1) = false) (hw : dd y % 7 = 4) (h0 : 19055 ≤ fp y) (h1 : fp y < 23269) : Kind y := by
  have e1 : y + 1 - 1 = y := by omega
  have n0 := ny_246 (y := y) (by omega)
  have s0 := dd_b (y := y) hl (by omega)
  have n1 := ny_246 (y := (y + 1)) (by omega)
  have q := b7_eq y
  exact Or.inl ⟨hl, Or.inr (Or.inr ⟨by omega, by omega⟩)⟩
theorem k_leaf126 {y : Int} (hp : leapB (y - 1) = true) (hl : leapB y = false) (hn : leapB (y + 1) = false) (hw : dd y % 7 = 4) (h0 : 23269 ≤ fp y) (h1 : fp y < 25920) : Kind y := by
  have e1 : y + 1 - 1 = y := by omega
  have n0 := ny_246 (y := y) (by omega)
  have s0 := dd_b (y := y) hl (by omega)
  have n1 := ny_246 (y := (y + 1)) (by omega)
  have q := b7_eq y
  exact Or.inl ⟨hl, Or.inr (Or.inr ⟨by omega, by omega⟩)⟩
theorem k_leaf127 {y : Int} (hp : leapB (y - 1) = true) (hl : leapB y = false) (hn : leapB (y + 1) = false) (hw : dd y % 7 = 5) (h0 : 0 ≤ fp y) (h1 : fp y < 2651) : Kind y := by
  have e1 : y + 1 - 1 = y := by omega
  have n0 := ny_35 (y := y) (by omega)
  have s0 := dd_a (y := y) hl (by omega)
  have n1 := ny_246 (y := (y + 1)) (by omega)
  have q := b7_eq y
  exact Or.inl ⟨hl, Or.inr (Or.inr ⟨by omega, by omega⟩)⟩
theorem k_leaf128 {y : Int} (hp : leapB (y - 1) = true) (hl : leapB y = false) (hn : leapB (y + 1) = false) (hw : dd y % 7 = 5) (h0 : 2651 ≤ fp y) (h1 : fp y < 6888) : Kind y := by
  have e1 : y + 1 - 1 = y := by omega
  have n0 := ny_35 (y := y) (by omega)
  have s0 := dd_a (y := y) hl (by omega)
  have n1 := ny_246 (y := (y + 1)) (by omega)
  have q := b7_eq y
  exact Or.inl ⟨hl, Or.inr (Or.inr ⟨by omega, by omega⟩)⟩
theorem k_leaf129 {y : Int} (hp : leapB (y - 1) = true) (hl : leapB y = false) (hn : leapB (y + 1) = false) (hw : dd y % 7 = 5) (h0 : 6888 ≤ fp y) (h1 : fp y < 13753) : Kind y := by
  have e1 : y + 1 - 1 = y := by omega
  have n0 := ny_35 (y := y) (by omega)
  have s0 := dd_a (y := y) hl (by omega)
  have n1 := ny_246 (y := (y + 1)) (by omega)
  have q := b7_eq y
  exact Or.inl ⟨hl, Or.inr (Or.inr ⟨by omega, by omega⟩)⟩
theorem k_leaf130 {y : Int} (hp : leapB (y - 1) = true) (hl : leapB y = false) (hn : leapB (y + 1) = false) (hw : dd y % 7 = 5) (h0 : 13753 ≤ fp y) (h1 : fp y < 16404) : Kind y := by
  have e1 : y + 1 - 1 = y := by omega
  have n0 := ny_35 (y := y) (by omega)
  have s0 := dd_a (y := y) hl (by omega)
  have n1 := ny_246 (y := (y + 1)) (by omega)
  have q := b7_eq y
  exact Or.inl ⟨hl, Or.inr (Or.inr ⟨by omega, by omega⟩)⟩
theorem k_leaf131 {y : Int} (hp : leapB (y - 1) = true) (hl : leapB y = false) (hn : leapB (y + 1) = false) (hw : dd y % 7 = 5) (h0 : 16404 ≤ fp y) (h1 : fp y < 19055) : Kind y := by
  have e1 : y + 1 - 1 = y := by omega
  have n0 := ny_35 (y := y) (by omega)
  have s0 := dd_b (y := y) hl (by omega)
  have n1 := ny_35 (y := (y + 1)) (by omega)
  have q := b7_eq y
  exact Or.inl ⟨hl, Or.inr (Or.inr ⟨by omega, by omega⟩)⟩
theorem k_leaf132 {y : Int} (hp : leapB (y - 1) = true) (hl : leapB y = false) (hn : leapB (y + 1) = false) (hw : dd y % 7 = 5) (h0 : 19055 ≤ fp y) (h1 : fp y < 23269) : Kind y := by
  have e1 : y + 1 - 1 = y := by omega
  have n0 := ny_35 (y := y) (by omega)
  have s0 := dd_b (y := y) hl (by omega)
  have n1 := ny_35 (y := (y + 1)) (by omega)
  have q := b7_eq y
  exact Or.inl ⟨hl, Or.inr (Or.inr ⟨by omega, by omega⟩)⟩
theorem k_leaf133 {y : Int} (hp : leapB (y - 1) = true) (hl : leapB y = false) (hn : leapB (y + 1) = false) (hw : dd y % 7 = 5) (h0 : 23269 ≤ fp y) (h1 : fp y < 25920) : Kind y := by
  have e1 : y + 1 - 1 = y := by omega
  have n0 := ny_35 (y := y) (by omega)
  have s0 := dd_b (y := y) hl (by omega)
  have n1 := ny_35 (y := (y + 1)) (by omega)
  have q := b7_eq y
  exact Or.inl ⟨hl, Or.inr (Or.inr ⟨by omega, by omega⟩)⟩
theorem k_leaf134 {y : Int} (hp : leapB (y - 1) = true) (hl : leapB y = false) (hn : leapB (y + 1) = false) (hw : dd y % 7 = 6) (h0 : 0 ≤ fp y) (h1 : fp y < 2651) : Kind y := by
  have e1 : y + 1 - 1 = y := by omega
  have n0 := ny_246 (y := y) (by omega)
  have s0 := dd_a (y := y) hl (by omega)
  have n1 := ny_35 (y := (y + 1)) (by omega)
  have q := b7_eq y
  exact Or.inl ⟨hl, Or.inl ⟨by omega, by omega⟩⟩
theorem k_leaf135 {y : Int} (hp : leapB (y - 1) = true) (hl : leapB y = false) (hn : leapB (y + 1) = false) (hw : dd y % 7 = 6) (h0 : 2651 ≤ fp y) (h1 : fp y < 6888) : Kind y := by
  have e1 : y + 1 - 1 = y := by omega
  have n0 := ny_246 (y := y) (by omega)
  have s0 := dd_a (y := y) hl (by omega)
  have n1 := ny_35 (y := (y + 1)) (by omega)
  have q := b7_eq y
  exact Or.inl ⟨hl, Or.inl ⟨by omega, by omega⟩⟩
theorem k_leaf136 {y : Int} (hp : leapB (y - 1) = true) (hl : leapB y = false) (hn : leapB (y + 1) = false) (hw : dd y % 7 = 6) (h0 : 6888 ≤ fp y) (h1 : fp y < 13753) : Kind y := by
  have e1 : y + 1 - 1 = y := by omega
  have n0 := ny_246 (y := y) (by omega)
  have s0 := dd_a (y := y) hl (by omega)
  have n1 := ny_35 (y := (y + 1)) (by omega)
  have q := b7_eq y
  exact Or.inl ⟨hl, Or.inl ⟨by omega, by omega⟩⟩
theorem k_leaf137 {y : Int} (hp : leapB (y - 1) = true) (hl : leapB y = false) (hn : leapB (y + 1) = false) (hw : dd y % 7 = 6) (h0 : 13753 ≤ fp y) (h1 : fp y < 16404) : Kind y := by
  have e1 : y + 1 - 1 = y := by omega
  have n0 := ny_246 (y := y) (by omega)
  have s0 := dd_a (y := y) hl (by omega)
  have n1 := ny_35 (y := (y + 1)) (by omega)
  have q := b7_eq y
  exact Or.inl ⟨hl, Or.inl ⟨by omega, by omega⟩⟩
theorem k_leaf138 {y : Int} (hp : leapB (y - 1) = true) (hl : leapB y = false) (hn : leapB (y + 1) = false) (hw : dd y % 7 = 6) (h0 : 16404 ≤ fp y) (h1 : fp y < 19055) : Kind y := by
  have e1 : y + 1 - 1 = y := by omega
  have n0 := ny_246 (y := y) (by omega)
  have s0 := dd_b (y := y) hl (by omega)
  have n1 := ny_246 (y := (y + 1)) (by omega)
  have q := b7_eq y
  exact Or.inl ⟨hl, Or.inr (Or.inr ⟨by omega, by omega⟩)⟩
theorem k_leaf139 {y : Int} (hp : leapB (y - 1) = true) (hl : leapB y = false) (hn : leapB (y + 1) = false) (hw : dd y % 7 = 6) (h0 : 19055 ≤ fp y) (h1 : fp y < 23269) : Kind y := by
  have e1 : y + 1 - 1 = y := by omega
  have n0 := ny_246 (y := y) (by omega)
  have s0 := dd_b (y := y) hl (by omega)
  have n1 := ny_246 (y := (y + 1)) (by omega)
  have q := b7_eq y
  exact Or.inl ⟨hl, Or.inr (Or.inr ⟨by omega, by omega⟩)⟩
theorem k_leaf140 {y : Int} (hp : leapB (y - 1) = true) (hl : leapB y = false) (hn : leapB (y + 1) = false) (hw : dd y % 7 = 6) (h0 : 23269 ≤ fp y) (h1 : fp y < 25920) : Kind y := by
  have e1 : y + 1 - 1 = y := by omega
  have n0 := ny_246 (y := y) (by omega)
  have s0 := dd_b (y := y) hl (by omega)
  have n1 := ny_246 (y := (y + 1)) (by omega)
  have q := b7_eq y
  exact Or.inl ⟨hl, Or.inr (Or.inr ⟨by omega, by omega⟩)⟩
theorem k_tff {y : Int} (hp : leapB (y - 1) = true) (hl : leapB y = false) (hn : leapB (y + 1) = false) : Kind y := by
  have b0 := fp_bd y
  have hw : dd y % 7 = 0 ∨ dd y % 7 = 1 ∨ dd y % 7 = 2 ∨ dd y % 7 = 3 ∨ dd y % 7 = 4 ∨ dd y % 7 = 5 ∨ dd y % 7 = 6 := by omega
  have hi : (0 ≤ fp y ∧ fp y < 2651) ∨ (2651 ≤ fp y ∧ fp y < 6888) ∨ (6888 ≤ fp y ∧ fp y < 13753) ∨ (13753 ≤ fp y ∧ fp y < 16404) ∨ (16404 ≤ fp y ∧ fp y < 19055) ∨ (19055 ≤ fp y ∧ fp y < 23269) ∨ (23269 ≤ fp y ∧ fp y < 25920) := by omega
  rcases hw with hw | hw | hw | hw | hw | hw | hw <;> rcases hi with hi | hi | hi | hi | hi | hi | hi
  · exact k_leaf92 hp hl hn hw hi.1 hi.2
  · exact k_leaf93 hp hl hn hw hi.1 hi.2
  · exact k_leaf94 hp hl hn hw hi.1 hi.2
  · exact k_leaf95 hp hl hn hw hi.1 hi.2
  · exact k_leaf96 hp hl hn hw hi.1 hi.2
  · exact k_leaf97 hp hl hn hw hi.1 hi.2
  · exact k_leaf98 hp hl hn hw hi.1 hi.2
  · exact k_leaf99 hp hl hn hw hi.1 hi.2
  · exact k_leaf100 hp hl hn hw hi.1 hi.2
  · exact k_leaf101 hp hl hn hw hi.1 hi.2
  · exact k_leaf102 hp hl hn hw hi.1 hi.2
  · exact k_leaf103 hp hl hn hw hi.1 hi.2
  · exact k_leaf104 hp hl hn hw hi.1 hi.2
  · exact k_leaf105 hp hl hn hw hi.1 hi.2
  · exact k_leaf106 hp hl hn hw hi.1 hi.2
  · exact k_leaf107 hp hl hn hw hi.1 hi.2
  · exact k_leaf108 hp hl hn hw hi.1 hi.2
  · exact k_leaf109 hp hl hn hw hi.1 hi.2
  · exact k_leaf110 hp hl hn hw hi.1 hi.2
  · exact k_leaf111 hp hl hn hw hi.1 hi.2
  · exact k_leaf112 hp hl hn hw hi.1 hi.2
  · exact k_leaf113 hp hl hn hw hi.1 hi.2
  · exact k_leaf114 hp hl hn hw hi.1 hi.2
  · exact k_leaf115 hp hl hn hw hi.1 hi.2
  · exact k_leaf116 hp hl hn hw hi.1 hi.2
  · exact k_leaf117 hp hl hn hw hi.1 hi.2
  · exact k_leaf118 hp hl hn hw hi.1 hi.2
  · exact k_leaf119 hp hl hn hw hi.1 hi.2
  · exact k_leaf120 hp hl hn hw hi.1 hi.2
  · exact k_leaf121 hp hl hn hw hi.1 hi.2
  · exact k_leaf122 hp hl hn hw hi.1 hi.2
  · exact k_leaf123 hp hl hn hw hi.1 hi.2
  · exact k_leaf124 hp hl hn hw hi.1 hi.2
  · exact k_leaf125 hp hl hn hw hi.1 hi.2
  · exact k_leaf126 hp hl hn hw hi.1 hi.2
  · exact k_leaf127 hp hl hn hw hi.1 hi.2
  · exact k_leaf128 hp hl hn hw hi.1 hi.2
  · exact k_leaf129 hp hl hn hw hi.1 hi.2
  · exact k_leaf130 hp hl hn hw hi.1 hi.2
  · exact k_leaf131 hp hl hn hw hi.1 hi.2
  · exact k_leaf132 hp hl hn hw hi.1 hi.2
  · exact k_leaf133 hp hl hn hw hi.1 hi.2
  · exact k_leaf134 hp hl hn hw hi.1 hi.2
  · exact k_leaf135 hp hl hn hw hi.1 hi.2
  · exact k_leaf136 hp hl hn hw hi.1 hi.2
  · exact k_leaf137 hp hl hn hw hi.1 hi.2
  · exact k_leaf138 hp hl hn hw hi.1 hi.2
  · exact k_leaf139 hp hl hn hw hi.1 hi.2
  · exact k_leaf140 hp hl hn hw hi.1 hi.2
theorem k_leaf141 {y : Int} (hp : leapB (y - 1) = true) (hl : leapB y = false) (hn : leapB (y + 1) = true) (hw : dd y % 7 = 0) (h0 : 0 ≤ fp y) (h1 : fp y < 2651) : Kind y := by
  have e1 : y + 1 - 1 = y := by omega
  have n0 := ny_0b (y := y) (by omega) (by omega)
  have s0 := dd_a (y := y) hl (by omega)
  have n1 := ny_246 (y := (y + 1)) (by omega)
  have q := b7_eq y
  exact Or.inl ⟨hl, Or.inr (Or.inr ⟨by omega, by omega⟩)⟩
theorem k_leaf142 {y : Int} (hp : leapB (y - 1) = true) (hl : leapB y = false) (hn : leapB (y + 1) = true) (hw : dd y % 7 = 0) (h0 : 2651 ≤ fp y) (h1 : fp y < 6888) : Kind y := by
  have e1 : y + 1 - 1 = y := by omega
  have n0 := ny_0b (y := y) (by omega) (by omega)
  have s0 := dd_a (y := y) hl (by omega)
  have n1 := ny_246 (y := (y + 1)) (by omega)
  have q := b7_eq y
  exact Or.inl ⟨hl, Or.inr (Or.inr ⟨by omega, by omega⟩)⟩
theorem k_leaf143 {y : Int} (hp : leapB (y - 1) = true) (hl : leapB y = false) (hn : leapB (y + 1) = true) (hw : dd y % 7 = 0) (h0 : 6888 ≤ fp y) (h1 : fp y < 13753) : Kind y := by
  have e1 : y + 1 - 1 = y := by omega
  have n0 := ny_0b (y := y) (by omega) (by omega)
  have s0 := dd_a (y := y) hl (by omega)
  have n1 := ny_246 (y := (y + 1)) (by omega)
  have q := b7_eq y
  exact Or.inl ⟨hl, Or.inr (Or.inr ⟨by omega, by omega⟩)⟩
theorem k_leaf144 {y : Int} (hp : leapB (y - 1) = true) (hl : leapB y = false) (hn : leapB (y + 1) = true) (hw : dd y % 7 = 0) (h0 : 13753 ≤ fp y) (h1 : fp y < 16404) : Kind y := by
  have e1 : y + 1 - 1 = y := by omega
  have n0 := ny_0b (y := y) (by omega) (by omega)
  have s0 := dd_a (y := y) hl (by omega)
  have n1 := ny_246 (y := (y + 1)) (by omega)
  have q := b7_eq y
  exact Or.inl ⟨hl, Or.inr (Or.inr ⟨by omega, by omega⟩)⟩
theorem k_leaf145 {y : Int} (hp : leapB (y - 1) = true) (hl : leapB y = false) (hn : leapB (y + 1) = true) (hw : dd y % 7 = 0) (h0 : 16404 ≤ fp y) (h1 : fp y < 19055) : Kind y := by
  have e1 : y + 1 - 1 = y := by omega
  have n0 := ny_0b (y := y) (by omega) (by omega)
  have s0 := dd_b (y := y) hl (by omega)
  have n1 := ny_35 (y := (y + 1)) (by omega)
  have q := b7_eq y
  exact Or.inl ⟨hl, Or.inr (Or.inr ⟨by omega, by omega⟩)⟩
theorem k_leaf146 {y : Int} (hp : leapB (y - 1) = true) (hl : leapB y = false) (hn : leapB (y + 1) = true) (hw : dd y % 7 = 0) (h0 : 19055 ≤ fp y) (h1 : fp y < 23269) : Kind y := by
  have e1 : y + 1 - 1 = y := by omega
  have n0 := ny_0b (y := y) (by omega) (by omega)
  have s0 := dd_b (y := y) hl (by omega)
  have n1 := ny_35 (y := (y + 1)) (by omega)
  have q := b7_eq y
  exact Or.inl ⟨hl, Or.inr (Or.inr ⟨by omega, by omega⟩)⟩
theorem k_leaf147 {y : Int} (hp : leapB (y - 1) = true) (hl : leapB y = false) (hn : leapB (y + 1) = true) (hw : dd y % 7 = 0) (h0 : 23269 ≤ fp y) (h1 : fp y < 25920) : Kind y := by
  have e1 : y + 1 - 1 = y := by omega
  have n0 := ny_0a (y := y) (by omega) (by omega) hp
  have s0 := dd_b (y := y) hl (by omega)
  have n1 := ny_35 (y := (y + 1)) (by omega)
  have q := b7_eq y
  exact Or.inl ⟨hl, Or.inr (Or.inl ⟨by omega, by omega⟩)⟩
theorem k_leaf148 {y : Int} (hp : leapB (y - 1) = true) (hl : leapB y = false) (hn : leapB (y + 1) = true) (hw : dd y % 7 = 1) (h0 : 0 ≤ fp y) (h1 : fp y < 2651) : Kind y := by
  have e1 : y + 1 - 1 = y := by omega
  have n0 := ny_1b (y := y) (by omega) (by omega)
  have s0 := dd_a (y := y) hl (by omega)
  have n1 := ny_35 (y := (y + 1)) (by omega)
  have q := b7_eq y
  exact Or.inl ⟨hl, Or.inr (Or.inl ⟨by omega, by omega⟩)⟩
theorem k_leaf149 {y : Int} (hp : leapB (y - 1) = true) (hl : leapB y = false) (hn : leapB (y + 1) = true) (hw : dd y % 7 = 1) (h0 : 2651 ≤ fp y) (h1 : fp y < 6888) : Kind y := by
  have e1 : y + 1 - 1 = y := by omega
  have n0 := ny_1b (y := y) (by omega) (by omega)
  have s0 := dd_a (y := y) hl (by omega)
  have n1 := ny_35 (y := (y + 1)) (by omega)
  have q := b7_eq y
  exact Or.inl ⟨hl, Or.inr (Or.inl ⟨by omega, by omega⟩)⟩
theorem k_leaf150 {y : Int} (hp : leapB (y - 1) = true) (hl : leapB y = false) (hn : leapB (y + 1) = true) (hw : dd y % 7 = 1) (h0 : 6888 ≤ fp y) (h1 : fp y < 13753) : Kind y := by
  have e1 : y + 1 - 1 = y := by omega
  have n0 := ny_1b (y := y) (by omega) (by omega)
  have s0 := dd_a (y := y) hl (by omega)
  have n1 := ny_35 (y := (y + 1)) (by omega)
  have q := b7_eq y
  exact Or.inl ⟨hl, Or.inr (Or.inl ⟨by omega, by omega⟩)⟩
theorem k_leaf151 {y : Int} (hp : leapB (y - 1) = true) (hl : leapB y = false) (hn : leapB (y + 1) = true) (hw : dd y % 7 = 1) (h0 : 13753 ≤ fp y) (h1 : fp y < 16404) : Kind y := by
  have e1 : y + 1 - 1 = y := by omega
  have n0 := ny_1b (y := y) (by omega) (by omega)
  have s0 := dd_a (y := y) hl (by omega)
  have n1 := ny_35 (y := (y + 1)) (by omega)
  have q := b7_eq y
  exact Or.inl ⟨hl, Or.inr (Or.inl ⟨by omega, by omega⟩)⟩
theorem k_leaf152 {y : Int} (hp : leapB (y - 1) = true) (hl : leapB y = false) (hn : leapB (y + 1) = true) (hw : dd y % 7 = 1) (h0 : 16404 ≤ fp y) (h1 : fp y < 19055) : Kind y := by
  have e1 : y + 1 - 1 = y := by omega
  have n0 := ny_1a (y := y) (by omega) (by omega) hl
  have s0 := dd_b (y := y) hl (by omega)
  have n1 := ny_246 (y := (y + 1)) (by omega)
  have q := b7_eq y
  exact Or.inl ⟨hl, Or.inr (Or.inl ⟨by omega, by omega⟩)⟩
theorem k_leaf153 {y : Int} (hp : leapB (y - 1) = true) (hl : leapB y = false) (hn : leapB (y + 1) = true) (hw : dd y % 7 = 1) (h0 : 19055 ≤ fp y) (h1 : fp y < 23269) : Kind y := by
  have e1 : y + 1 - 1 = y := by omega
  have n0 := ny_1a (y := y) (by omega) (by omega) hl
  have s0 := dd_b (y := y) hl (by omega)
  have n1 := ny_246 (y := (y + 1)) (by omega)
  have q := b7_eq y
  exact Or.inl ⟨hl, Or.inr (Or.inl ⟨by omega, by omega⟩)⟩
theorem k_leaf154 {y : Int} (hp : leapB (y - 1) = true) (hl : leapB y = false) (hn : leapB (y + 1) = true) (hw : dd y % 7 = 1) (h0 : 23269 ≤ fp y) (h1 : fp y < 25920) : Kind y := by
  have e1 : y + 1 - 1 = y := by omega
  have n0 := ny_1a (y := y) (by omega) (by omega) hl
  have s0 := dd_b (y := y) hl (by omega)
  have n1 := ny_246 (y := (y + 1)) (by omega)
  have q := b7_eq y
  exact Or.inl ⟨hl, Or.inr (Or.inl ⟨by omega, by omega⟩)⟩
theorem k_leaf155 {y : Int} (hp : leapB (y - 1) = true) (hl : leapB y = false) (hn : leapB (y + 1) = true) (hw : dd y % 7 = 2) (h0 : 0 ≤ fp y) (h1 : fp y < 2651) : Kind y := by
  have e1 : y + 1 - 1 = y := by omega
  have n0 := ny_246 (y := y) (by omega)
  have s0 := dd_a (y := y) hl (by omega)
  have n1 := ny_246 (y := (y + 1)) (by omega)
  have q := b7_eq y
  exact Or.inl ⟨hl, Or.inr (Or.inl ⟨by omega, by omega⟩)⟩
theorem k_leaf156 {y : Int} (hp : leapB (y - 1) = true) (hl : leapB y = false) (hn : leapB (y + 1) = true) (hw : dd y % 7 = 2) (h0 : 2651 ≤ fp y) (h1 : fp y < 6888) : Kind y := by
  have e1 : y + 1 - 1 = y := by omega
  have n0 := ny_246 (y := y) (by omega)
  have s0 := dd_a (y := y) hl (by omega)
  have n1 := ny_246 (y := (y + 1)) (by omega)
  have q := b7_eq y
  exact Or.inl ⟨hl, Or.inr (Or.inl ⟨by omega, by omega⟩)⟩
theorem k_leaf157 {y : Int} (hp : leapB (y - 1) = true) (hl : leapB y = false) (hn : leapB (y + 1) = true) (hw : dd y % 7 = 2) (h0 : 6888 ≤ fp y) (h1 : fp y < 13753) : Kind y := by
  have e1 : y + 1 - 1 = y := by omega
  have n0 := ny_246 (y := y) (by omega)
  have s0 := dd_a (y := y) hl (by omega)
  have n1 := ny_246 (y := (y + 1)) (by omega)
  have q := b7_eq y
  exact Or.inl ⟨hl, Or.inr (Or.inl ⟨by omega, by omega⟩)⟩
theorem k_leaf158 {y : Int} (hp : leapB (y - 1) = true) (hl : leapB y = false) (hn : leapB (y + 1) = true) (hw : dd y % 7 = 2) (h0 : 13753 ≤ fp y) (h1 : fp y < 16404) : Kind y := by
  have e1 : y + 1 - 1 = y := by omega
  have n0 := ny_246 (y := y) (by omega)
  have s0 := dd_a (y := y) hl (by omega)
  have n1 := ny_246 (y := (y + 1)) (by omega)
  have q := b7_eq y
  exact Or.inl ⟨hl, Or.inr (Or.inl ⟨by omega, by omega⟩)⟩
theorem k_leaf159 {y : Int} (hp : leapB (y - 1) = true) (hl : leapB y = false) (hn : leapB (y + 1) = true) (hw : dd y % 7 = 2) (h0 : 16404 ≤ fp y) (h1 : fp y < 19055) : Kind y := by
  have e1 : y + 1 - 1 = y := by omega
  have n0 := ny_246 (y := y) (by omega)
  have s0 := dd_b (y := y) hl (by omega)
  have n1 := ny_0c (y := (y + 1)) (by omega) (by rw [e1]; exact hl)
  have q := b7_eq y
  exact Or.inl ⟨hl, Or.inr (Or.inl ⟨by omega, by omega⟩)⟩
theorem k_leaf160 {y : Int} (hp : leapB (y - 1) = true) (hl : leapB y = false) (hn : leapB (y + 1) = true) (hw : dd y % 7 = 2) (h0 : 19055 ≤ fp y) (h1 : fp y < 23269) : Kind y := by
  have e1 : y + 1 - 1 = y := by omega
  have n0 := ny_246 (y := y) (by omega)
  have s0 := dd_b (y := y) hl (by omega)
  have n1 := ny_0c (y := (y + 1)) (by omega) (by rw [e1]; exact hl)
  have q := b7_eq y
  exact Or.inl ⟨hl, Or.inr (Or.inl ⟨by omega, by omega⟩)⟩
theorem k_leaf161 {y : Int} (hp : leapB (y - 1) = true) (hl : leapB y = false) (hn : leapB (y + 1) = true) (hw : dd y % 7 = 2) (h0 : 23269 ≤ fp y) (h1 : fp y < 25920) : Kind y := by
  have e1 : y + 1 - 1 = y := by omega
  have n0 := ny_246 (y := y) (by omega)
  have s0 := dd_b (y := y) hl (by omega)
  have n1 := ny_0c (y := (y + 1)) (by omega) (by rw [e1]; exact hl)
  have q := b7_eq y
  exact Or.inl ⟨hl, Or.inr (Or.inl ⟨by omega, by omega⟩)⟩
theorem k_leaf162 {y : Int} (hp : leapB (y - 1) = true) (hl : leapB y = false) (hn : leapB (y + 1) = true) (hw : dd y % 7 = 3) (h0 : 0 ≤ fp y) (h1 : fp y < 2651) : Kind y := by
  have e1 : y + 1 - 1 = y := by omega
  have n0 := ny_35 (y := y) (by omega)
  have s0 := dd_a (y := y) hl (by omega)
  have n1 := ny_0c (y := (y + 1)) (by omega) (by rw [e1]; exact hl)
  have q := b7_eq y
  exact Or.inl ⟨hl, Or.inr (Or.inl ⟨by omega, by omega⟩)⟩
theorem k_leaf163 {y : Int} (hp : leapB (y - 1) = true) (hl : leapB y = false) (hn : leapB (y + 1) = true) (hw : dd y % 7 = 3) (h0 : 2651 ≤ fp y) (h1 : fp y < 6888) : Kind y := by
  have e1 : y + 1 - 1 = y := by omega
  have n0 := ny_35 (y := y) (by omega)
  have s0 := dd_a (y := y) hl (by omega)
  have n1 := ny_0c (y := (y + 1)) (by omega) (by rw [e1]; exact hl)
  have q := b7_eq y
  exact Or.inl ⟨hl, Or.inr (Or.inl ⟨by omega, by omega⟩)⟩
theorem k_leaf164 {y : Int} (hp : leapB (y - 1) = true) (hl : leapB y = false) (hn : leapB (y + 1) = true) (hw : dd y % 7 = 3) (h0 : 6888 ≤ fp y) (h1 : fp y < 13753) : Kind y := by
  have e1 : y + 1 - 1 = y := by omega
  have n0 := ny_35 (y := y) (by omega)
  have s0 := dd_a (y := y) hl (by omega)
  have n1 := ny_0c (y := (y + 1)) (by omega) (by rw [e1]; exact hl)
  have q := b7_eq y
  exact Or.inl ⟨hl, Or.inr (Or.inl ⟨by omega, by omega⟩)⟩
theorem k_leaf165 {y : Int} (hp : leapB (y - 1) = true) (hl : leapB y = false) (hn : leapB (y + 1) = true) (hw : dd y % 7 = 3) (h0 : 13753 ≤ fp y) (h1 : fp y < 16404) : Kind y := by
  have e1 : y + 1 - 1 = y := by omega
  have n0 := ny_35 (y := y) (by omega)
  have s0 := dd_a (y := y) hl (by omega)
  have n1 := ny_0c (y := (y + 1)) (by omega) (by rw [e1]; exact hl)
  have q := b7_eq y
  exact Or.inl ⟨hl, Or.inr (Or.inl ⟨by omega, by omega⟩)⟩
theorem k_leaf166 {y : Int} (hp : leapB (y - 1) = true) (hl : leapB y = false) (hn : leapB (y + 1) = true) (hw : dd y % 7 = 3) (h0 : 16404 ≤ fp y) (h1 : fp y < 19055) : Kind y := by
  have e1 : y + 1 - 1 = y := by omega
  have n0 := ny_35 (y := y) (by omega)
  have s0 := dd_b (y := y) hl (by omega)
  have n1 := ny_1c (y := (y + 1)) (by omega) hn
  have q := b7_eq y
  exact Or.inl ⟨hl, Or.inr (Or.inr ⟨by omega, by omega⟩)⟩
theorem k_leaf167 {y : Int} (hp : leapB (y - 1) = true) (hl : leapB y = false) (hn : leapB (y + 1) = true) (hw : dd y % 7 = 3) (h0 : 19055 ≤ fp y) (h1 : fp y < 23269) : Kind y := by
  have e1 : y + 1 - 1 = y := by omega
  have n0 := ny_35 (y := y) (by omega)
  have s0 := dd_b (y := y) hl (by omega)
  have n1 := ny_1c (y := (y + 1)) (by omega) hn
  have q := b7_eq y
  exact Or.inl ⟨hl, Or.inr (Or.inr ⟨by omega, by omega⟩)⟩
theorem k_leaf168 {y : Int} (hp : leapB (y - 1) = true) (hl : leapB y = false) (hn : leapB (y + 1) = true) (hw : dd y % 7 = 3) (h0 : 23269 ≤ fp y) (h1 : fp y < 25920) : Kind y := by
  have e1 : y + 1 - 1 = y := by omega
  have n0 := ny_35 (y := y) (by omega)
  have s0 := dd_b (y := y) hl (by omega)
  have n1 := ny_1c (y := (y + 1)) (by omega) hn
  have q := b7_eq y
  exact Or.inl ⟨hl, Or.inr (Or.inr ⟨by omega, by omega⟩)⟩
theorem k_leaf169 {y : Int} (hp : leapB (y - 1) = true) (hl : leapB y = false) (hn : leapB (y + 1) = true) (hw : dd y % 7 = 4) (h0 : 0 ≤ fp y) (h1 : fp y < 2651) : Kind y := by
  have e1 : y + 1 - 1 = y := by omega
  have n0 := ny_246 (y := y) (by omega)
  have s0 := dd_a (y := y) hl (by omega)
  have n1 := ny_1c (y := (y + 1)) (by omega) hn
  have q := b7_eq y
  exact Or.inl ⟨hl, Or.inl ⟨by omega, by omega⟩⟩
theorem k_leaf170 {y : Int} (hp : leapB (y - 1) = true) (hl : leapB y = false) (hn : leapB (y + 1) = true) (hw : dd y % 7 = 4) (h0 : 2651 ≤ fp y) (h1 : fp y < 6888) : Kind y := by
  have e1 : y + 1 - 1 = y := by omega
  have n0 := ny_246 (y := y) (by omega)
  have s0 := dd_a (y := y) hl (by omega)
  have n1 := ny_1c (y := (y + 1)) (by omega) hn
  have q := b7_eq y
  exact Or.inl ⟨hl, Or.inl ⟨by omega, by omega⟩⟩
theorem k_leaf171 {y : Int} (hp : leapB (y - 1) = true) (hl : leapB y = false) (hn : leapB (y + 1) = true) (hw : dd y % 7 = 4) (h0 : 6888 ≤ fp y) (h1 : fp y < 13753) : Kind y := by
  have e1 : y + 1 - 1 = y := by omega
  have n0 := ny_246 (y := y) (by omega)
  have s0 := dd_a (y := y) hl (by omega)
  have n1 := ny_1c (y := (y + 1)) (by omega) hn
  have q := b7_eq y
  exact Or.inl ⟨hl, Or.inl ⟨by omega, by omega⟩⟩
theorem k_leaf172 {y : Int} (hp : leapB (y - 1) = true) (hl : leapB y = false) (hn : leapB (y + 1) = true) (hw : dd y % 7 = 4) (h0 : 13753 ≤ fp y) (h1 : fp y < 16404) : Kind y := by
  have e1 : y + 1 - 1 = y := by omega
  have n0 := ny_246 (y := y) (by omega)
  have s0 := dd_a (y := y) hl (by omega)
  have n1 := ny_1c (y := (y + 1)) (by omega) hn
  have q := b7_eq y
  exact Or.inl ⟨hl, Or.inl ⟨by omega, by omega⟩⟩
theorem k_leaf173 {y : Int} (hp : leapB (y - 1) = true) (hl : leapB y = false) (hn : leapB (y + 1) = true) (hw : dd y % 7 = 4) (h0 : 16404 ≤ fp y) (h1 : fp y < 19055) : Kind y := by
  have e1 : y + 1 - 1 = y := by omega
  have n0 := ny_246 (y := y) (by omega)
  have s0 := dd_b (y := y) hl (by omega)
  have n1 := ny_246 (y := (y + 1)) (by omega)
  have q := b7_eq y
  exact Or.inl ⟨hl, Or.inr (Or.inr ⟨by omega, by omega⟩)⟩
theorem k_leaf174 {y : Int} (hp : leapB (y - 1) = true) (hl : leapB y = false) (hn : leapB (y + 1) = true) (hw : dd y % 7 = 4) (h0 : 19055 ≤ fp y) (h1 : fp y < 23269) : Kind y := by
  have e1 : y + 1 - 1 = y := by omega
  have n0 := ny_246 (y := y) (by omega)
  have s0 := dd_b (y := y) hl (by omega)
  have n1 := ny_246 (y := (y + 1)) (by omega)
  have q := b7_eq y
  exact Or.inl ⟨hl, Or.inr (Or.inr ⟨by omega, by omega⟩)⟩
theorem k_leaf175 {y : Int} (hp : leapB (y - 1) = true) (hl : leapB y = false) (hn : leapB (y + 1) = true) (hw : dd y % 7 = 4) (h0 : 23269 ≤ fp y) (h1 : fp y < 25920) : Kind y := by
  have e1 : y + 1 - 1 = y := by omega
  have n0 := ny_246 (y := y) (by omega)
  have s0 := dd_b (y := y) hl (by omega)
  have n1 := ny_246 (y := (y + 1)) (by omega)
  have q := b7_eq y
  exact Or.inl ⟨hl, Or.inr (Or.inr ⟨by omega, by omega⟩)⟩
theorem k_leaf176 {y : Int} (hp : leapB (y - 1) = true) (hl : leapB y = false) (hn : leapB (y + 1) = true) (hw : dd y % 7 = 5) (h0 : 0 ≤ fp y) (h1 : fp y < 2651) : Kind y := by
  have e1 : y + 1 - 1 = y := by omega
  have n0 := ny_35 (y := y) (by omega)
  have s0 := dd_a (y := y) hl (by omega)
  have n1 := ny_246 (y := (y + 1)) (by omega)
  have q := b7_eq y
  exact Or.inl ⟨hl, Or.inr (Or.inr ⟨by omega, by omega⟩)⟩
theorem k_leaf177 {y : Int} (hp : leapB (y - 1) = true) (hl : leapB y = false) (hn : leapB (y + 1) = true) (hw : dd y % 7 = 5) (h0 : 2651 ≤ fp y) (h1 : fp y < 6888) : Kind y := by
  have e1 : y + 1 - 1 = y := by omega
  have n0 := ny_35 (y := y) (by omega)
  have s0 := dd_a (y := y) hl (by omega)
  have n1 := ny_246 (y := (y + 1)) (by omega)
  have q := b7_eq y
  exact Or.inl ⟨hl, Or.inr (Or.inr ⟨by omega, by omega⟩)⟩
theorem k_leaf178 {y : Int} (hp : leapB (y - 1) = true) (hl : leapB y = false) (hn : leapB (y + 1) = true) (hw : dd y % 7 = 5) (h0 : 6888 ≤ fp y) (h1 : fp y < 13753) : Kind y := by
  have e1 : y + 1 - 1 = y := by omega
  have n0 := ny_35 (y := y) (by omega)
  have s0 := dd_a (y := y) hl (by omega)
  have n1 := ny_246 (y := (y + 1)) (by omega)
  have q := b7_eq y
  exact Or.inl ⟨hl, Or.inr (Or.inr ⟨by omega, by omega⟩)⟩
theorem k_leaf179 {y : Int} (hp : leapB (y - 1) = true) (hl : leapB y = false) (hn : leapB (y + 1) = true) (hw : dd y % 7 = 5) (h0 : 13753 ≤ fp y) (h1 : fp y < 16404) : Kind y := by
  have e1 : y + 1 - 1 = y := by omega
  have n0 := ny_35 (y := y) (by omega)
  have s0 := dd_a (y := y) hl (by omega)
  have n1 := ny_246 (y := (y + 1)) (by omega)
  have q := b7_eq y
  exact Or.inl ⟨hl, Or.inr (Or.inr ⟨by omega, by omega⟩)⟩
theorem k_leaf180 {y : Int} (hp : leapB (y - 1) = true) (hl : leapB y = false) (hn : leapB (y + 1) = true) (hw : dd y % 7 = 5) (h0 : 16404 ≤ fp y) (h1 : fp y < 19055) : Kind y := by
  have e1 : y + 1 - 1 = y := by omega
  have n0 := ny_35 (y := y) (by omega)
  have s0 := dd_b (y := y) hl (by omega)
  have n1 := ny_35 (y := (y + 1)) (by omega)
  have q := b7_eq y
  exact Or.inl ⟨hl, Or.inr (Or.inr ⟨by omega, by omega⟩)⟩
theorem k_leaf181 {y : Int} (hp : leapB (y - 1) = true) (hl : leapB y = false) (hn : leapB (y + 1) = true) (hw : dd y % 7 = 5) (h0 : 19055 ≤ fp y) (h1 : fp y < 23269) : Kind y := by
  have e1 : y + 1 - 1 = y := by omega
  have n0 := ny_35 (y := y) (by omega)
  have s0 := dd_b (y := y) hl (by omega)
  have n1 := ny_35 (y := (y + 1)) (by omega)
  have q := b7_eq y
  exact Or.inl ⟨hl, Or.inr (Or.inr ⟨by omega, by omega⟩)⟩
theorem k_leaf182 {y : Int} (hp : leapB (y - 1) = true) (hl : leapB y = false) (hn : leapB (y + 1) = true) (hw : dd y % 7 = 5) (h0 : 23269 ≤ fp y) (h1 : fp y < 25920) : Kind y := by
  have e1 : y + 1 - 1 = y := by omega
  have n0 := ny_35 (y := y) (by omega)
  have s0 := dd_b (y := y) hl (by omega)
  have n1 := ny_35 (y := (y + 1)) (by omega)
  have q := b7_eq y
  exact Or.inl ⟨hl, Or.inr (Or.inr ⟨by omega, by omega⟩)⟩
theorem k_leaf183 {y : Int} (hp : leapB (y - 1) = true) (hl : leapB y = false) (hn : leapB (y + 1) = true) (hw : dd y % 7 = 6) (h0 : 0 ≤ fp y) (h1 : fp y < 2651) : Kind y := by
  have e1 : y + 1 - 1 = y := by omega
  have n0 := ny_246 (y := y) (by omega)
  have s0 := dd_a (y := y) hl (by omega)
  have n1 := ny_35 (y := (y + 1)) (by omega)
  have q := b7_eq y
  exact Or.inl ⟨hl, Or.inl ⟨by omega, by omega⟩⟩
theorem k_leaf184 {y : Int} (hp : leapB (y - 1) = true) (hl : leapB y = false) (hn : leapB (y + 1) = true) (hw : dd y % 7 = 6) (h0 : 2651 ≤ fp y) (h1 : fp y < 6888) : Kind y := by
  have e1 : y + 1 - 1 = y := by omega
  have n0 := ny_246 (y := y) (by omega)
  have s0 := dd_a (y := y) hl (by omega)
  have n1 := ny_35 (y := (y + 1)) (by omega)
  have q := b7_eq y
  exact Or.inl ⟨hl, Or.inl ⟨by omega, by omega⟩⟩
theorem k_leaf185 {y : Int} (hp : leapB (y - 1) = true) (hl : leapB y = false) (hn : leapB (y + 1) = true) (hw : dd y % 7 = 6) (h0 : 6888 ≤ fp y) (h1 : fp y < 13753) : Kind y := by
  have e1 : y + 1 - 1 = y := by omega
  have n0 := ny_246 (y := y) (by omega)
  have s0 := dd_a (y := y) hl (by omega)
  have n1 := ny_35 (y := (y + 1)) (by omega)
  have q := b7_eq y
  exact Or.inl ⟨hl, Or.inl ⟨by omega, by omega⟩⟩
theorem k_leaf186 {y : Int} (hp : leapB (y - 1) = true) (hl : leapB y = false) (hn : leapB (y + 1) = true) (hw : dd y % 7 = 6) (h0 : 13753 ≤ fp y) (h1 : fp y < 16404) : Kind y := by
  have e1 : y + 1 - 1 = y := by omega
  have n0 := ny_246 (y := y) (by omega)
  have s0 := dd_a (y := y) hl (by omega)
  have n1 := ny_35 (y := (y + 1)) (by omega)
  have q := b7_eq y
  exact Or.inl ⟨hl, Or.inl ⟨by omega, by omega⟩⟩
theorem k_leaf187 {y : Int} (hp : leapB (y - 1) = true) (hl : leapB y = false) (hn : leapB (y + 1) = true) (hw : dd y % 7 = 6) (h0 : 16404 ≤ fp y) (h1 : fp y < 19055) : Kind y := by
  have e1 : y + 1 - 1 = y := by omega
  have n0 := ny_246 (y := y) (by omega)
  have s0 := dd_b (y := y) hl (by omega)
  have n1 := ny_246 (y := (y + 1)) (by omega)
  have q := b7_eq y
  exact Or.inl ⟨hl, Or.inr (Or.inr ⟨by omega, by omega⟩)⟩
theorem k_leaf188 {y : Int} (hp : leapB (y - 1) = true) (hl : leapB y = false) (hn : leapB (y + 1) = true) (hw : dd y % 7 = 6) (h0 : 19055 ≤ fp y) (h1 : fp y < 23269) : Kind y := by
  have e1 : y + 1 - 1 = y := by omega
  have n0 := ny_246 (y := y) (by omega)
  have s0 := dd_b (y := y) hl (by omega)
  have n1 := ny_246 (y := (y + 1)) (by omega)
  have q := b7_eq y
  exact Or.inl ⟨hl, Or.inr (Or.inr ⟨by omega, by omega⟩)⟩
theorem k_leaf189 {y : Int} (hp : leapB (y - 1) = true) (hl : leapB y = false) (hn : leapB (y + 1) = true) (hw : dd y % 7 = 6) (h0 : 23269 ≤ fp y) (h1 : fp y < 25920) : Kind y := by
  have e1 : y + 1 - 1 = y := by omega
  have n0 := ny_246 (y := y) (by omega)
  have s0 := dd_b (y := y) hl (by omega)
  have n1 := ny_246 (y := (y + 1)) (by omega)
  have q := b7_eq y
  exact Or.inl ⟨hl, Or.inr (Or.inr ⟨by omega, by omega⟩)⟩
theorem k_tft {y : Int} (hp : leapB (y - 1) = true) (hl : leapB y = false) (hn : leapB (y + 1) = true) : Kind y := by
  have b0 := fp_bd y
  have hw : dd y % 7 = 0 ∨ dd y % 7 = 1 ∨ dd y % 7 = 2 ∨ dd y % 7 = 3 ∨ dd y % 7 = 4 ∨ dd y % 7 = 5 ∨ dd y % 7 = 6 := by omega
  have hi : (0 ≤ fp y ∧ fp y < 2651) ∨ (2651 ≤ fp y ∧ fp y < 6888) ∨ (6888 ≤ fp y ∧ fp y < 13753) ∨ (13753 ≤ fp y ∧ fp y < 16404) ∨ (16404 ≤ fp y ∧ fp y < 19055) ∨ (19055 ≤ fp y ∧ fp y < 23269) ∨ (23269 ≤ fp y ∧ fp y < 25920) := by omega
  rcases hw with hw | hw | hw | hw | hw | hw | hw <;> rcases hi with hi | hi | hi | hi | hi | hi | hi
  · exact k_leaf141 hp hl hn hw hi.1 hi.2
  · exact k_leaf142 hp hl hn hw hi.1 hi.2
  · exact k_leaf143 hp hl hn hw hi.1 hi.2
  · exact k_leaf144 hp hl hn hw hi.1 hi.2
  · exact k_leaf145 hp hl hn hw hi.1 hi.2
  · exact k_leaf146 hp hl hn hw hi.1 hi.2
  · exact k_leaf147 hp hl hn hw hi.1 hi.2
  · exact k_leaf148 hp hl hn hw hi.1 hi.2
  · exact k_leaf149 hp hl hn hw hi.1 hi.2
  · exact k_leaf150 hp hl hn hw hi.1 hi.2
  · exact k_leaf151 hp hl hn hw hi.1 hi.2
  · exact k_leaf152 hp hl hn hw hi.1 hi.2
  · exact k_leaf153 hp hl hn hw hi.1 hi.2
  · exact k_leaf154 hp hl hn hw hi.1 hi.2
  · exact k_leaf155 hp hl hn hw hi.1 hi.2
  · exact k_leaf156 hp hl hn hw hi.1 hi.2
  · exact k_leaf157 hp hl hn hw hi.1 hi.2
  · exact k_leaf158 hp hl hn hw hi.1 hi.2
  · exact k_leaf159 hp hl hn hw hi.1 hi.2
  · exact k_leaf160 hp hl hn hw hi.1 hi.2
  · exact k_leaf161 hp hl hn hw hi.1 hi.2
  · exact k_leaf162 hp hl hn hw hi.1 hi.2
  · exact k_leaf163 hp hl hn hw hi.1 hi.2
  · exact k_leaf164 hp hl hn hw hi.1 hi.2
  · exact k_leaf165 hp hl hn hw hi.1 hi.2
  · exact k_leaf166 hp hl hn hw hi.1 hi.2
  · exact k_leaf167 hp hl hn hw hi.1 hi.2
  · exact k_leaf168 hp hl hn hw hi.1 hi.2
  · exact k_leaf169 hp hl hn hw hi.1 hi.2
  · exact k_leaf170 hp hl hn hw hi.1 hi.2
  · exact k_leaf171 hp hl hn hw hi.1 hi.2
  · exact k_leaf172 hp hl hn hw hi.1 hi.2
  · exact k_leaf173 hp hl hn hw hi.1 hi.2
  · exact k_leaf174 hp hl hn hw hi.1 hi.2
  · exact k_leaf175 hp hl hn hw hi.1 hi.2
  · exact k_leaf176 hp hl hn hw hi.1 hi.2
  · exact k_leaf177 hp hl hn hw hi.1 hi.2
  · exact k_leaf178 hp hl hn hw hi.1 hi.2
  · exact k_leaf179 hp hl hn hw hi.1 hi.2
  · exact k_leaf180 hp hl hn hw hi.1 hi.2
  · exact k_leaf181 hp hl hn hw hi.1 hi.2
  · exact k_leaf182 hp hl hn hw hi.1 hi.2
  · exact k_leaf183 hp hl hn hw hi.1 hi.2
  · exact k_leaf184 hp hl hn hw hi.1 hi.2
  · exact k_leaf185 hp hl hn hw hi.1 hi.2
  · exact k_leaf186 hp hl hn hw hi.1 hi.2
  · exact k_leaf187 hp hl hn hw hi.1 hi.2
  · exact k_leaf188 hp hl hn hw hi.1 hi.2
  · exact k_leaf189 hp hl hn hw hi.1 hi.2
theorem kind (y : Int) : Kind y := by
  have g1 := leap_gap (y - 1)
  have g2 := leap_gap y
  have e1 : y - 1 + 1 = y := by omega
  have e2 : y - 1 + 2 = y + 1 := by omega
  rw [e1, e2] at g1
  cases hp : leapB (y - 1) <;> cases hl : leapB y <;> cases hn : leapB (y + 1)
  · exfalso; simp [hp, hl, hn] at g1 g2
  · exact k_fft hp hl hn
  · exact k_ftf hp hl hn
  · exfalso; simp [hp, hl, hn] at g1 g2
  · exact k_tff hp hl hn
  · exact k_tft hp hl hn
  · exfalso; simp [hp, hl, hn] at g1 g2
  · exfalso; simp [hp, hl, hn] at g1 g2
def pairsT : List (Int × Int × Int) := [(0, 353, 354), (0, 353, 355), (0, 353, 385), (0, 355, 353), (0, 355, 355), (0, 355, 383), (0, 355, 385), (0, 383, 355), (0, 385, 353), (0, 385, 355), (1, 354, 355), (1, 354, 385), (1, 384, 355), (3, 354, 353), (3, 354, 355), (3, 354, 383), (3, 354, 385), (3, 355, 354), (3, 355, 384), (3, 383, 354), (3, 385, 354), (5, 353, 354), (5, 353, 384), (5, 355, 354), (5, 355, 383), (5, 355, 385), (5, 383, 354), (5, 383, 355), (5, 385, 353), (5, 385, 355)]
def Pair (a b c : Int) : Prop := (a, b, c) ∈ pairsT
theorem pair_of {a b c a' b' c' : Int} (h1 : a' = a) (h2 : b' = b) (h3 : c' = c) (h : (a, b, c) ∈ pairsT) : Pair a' b' c' := by subst h1 h2 h3; exact h
theorem p_leaf190 {y : Int} (hp : leapB (y - 1) = false) (hl : leapB y = false) (hn : leapB (y + 1) = true) (hm : leapB (y + 2) = false) (hw : dd y % 7 = 0) (h0 : 0 ≤ fp y) (h1 : fp y < 2651) : Pair (ny y % 7) (ny (y + 1) - ny y) (ny (y + 2) - ny (y + 1)) := by
  have e1 : y + 1 - 1 = y := by omega
  have e2 : y + 2 - 1 = y + 1 := by omega
  have e3 : y + 1 + 1 = y + 2 := by omega
  have n0 := ny_0c (y := y) (by omega) hp
  have s0 := dd_a (y := y) hl (by omega)
  have n1 := ny_246 (y := (y + 1)) (by omega)
  have s1 := dd_d (y := (y + 1)) hn (by omega)
  rw [e3] at s1
  have n2 := ny_35 (y := (y + 2)) (by omega)
  exact pair_of (a := 0) (b := 355) (c := 383) (by omega) (by omega) (by omega) (by decide)
theorem p_leaf191 {y : Int} (hp : leapB (y - 1) = false) (hl : leapB y = false) (hn : leapB (y + 1) = true) (hm : leapB (y + 2) = false) (hw : dd y % 7 = 0) (h0 : 2651 ≤ fp y) (h1 : fp y < 6888) : Pair (ny y % 7) (ny (y + 1) - ny y) (ny (y + 2) - ny (y + 1)) := by
  have e1 : y + 1 - 1 = y := by omega
  have e2 : y + 2 - 1 = y + 1 := by omega
  have e3 : y + 1 + 1 = y + 2 := by omega
  have n0 := ny_0c (y := y) (by omega) hp
  have s0 := dd_a (y := y) hl (by omega)
  have n1 := ny_246 (y := (y + 1)) (by omega)
  have s1 := dd_d (y := (y + 1)) hn (by omega)
  rw [e3] at s1
  have n2 := ny_35 (y := (y + 2)) (by omega)
  exact pair_of (a := 0) (b := 355) (c := 383) (by omega) (by omega) (by omega) (by decide)
theorem p_leaf192 {y : Int} (hp : leapB (y - 1) = false) (hl : leapB y = false) (hn : leapB (y + 1) = true) (hm : leapB (y + 2) = false) (hw : dd y % 7 = 0) (h0 : 6888 ≤ fp y) (h1 : fp y < 9539) : Pair (ny y % 7) (ny (y + 1) - ny y) (ny (y + 2) - ny (y + 1)) := by
  have e1 : y + 1 - 1 = y := by omega
  have e2 : y + 2 - 1 = y + 1 := by omega
  have e3 : y + 1 + 1 = y + 2 := by omega
  have n0 := ny_0c (y := y) (by omega) hp
  have s0 := dd_a (y := y) hl (by omega)
  have n1 := ny_246 (y := (y + 1)) (by omega)
  have s1 := dd_d (y := (y + 1)) hn (by omega)
  rw [e3] at s1
  have n2 := ny_35 (y := (y + 2)) (by omega)
  exact pair_of (a := 0) (b := 355) (c := 383) (by omega) (by omega) (by omega) (by decide)
theorem p_leaf193 {y : Int} (hp : leapB (y - 1) = false) (hl : leapB y = false) (hn : leapB (y + 1) = true) (hm : leapB (y + 2) = false) (hw : dd y % 7 = 0) (h0 : 9539 ≤ fp y) (h1 : fp y < 13753) : Pair (ny y % 7) (ny (y + 1) - ny y) (ny (y + 2) - ny (y + 1)) := by
  have e1 : y + 1 - 1 = y := by omega
  have e2 : y + 2 - 1 = y + 1 := by omega
  have e3 : y + 1 + 1 = y + 2 := by omega
  have n0 := ny_0c (y := y) (by omega) hp
  have s0 := dd_a (y := y) hl (by omega)
  have n1 := ny_246 (y := (y + 1)) (by omega)
  have s1 := dd_d (y := (y + 1)) hn (by omega)
  rw [e3] at s1
  have n2 := ny_35 (y := (y + 2)) (by omega)
  exact pair_of (a := 0) (b := 355) (c := 383) (by omega) (by omega) (by omega) (by decide)
theorem p_leaf194 {y : Int} (hp : leapB (y - 1) = false) (hl : leapB y = false) (hn : leapB (y + 1) = true) (hm : leapB (y + 2) = false) (hw : dd y % 7 = 0) (h0 : 13753 ≤ fp y) (h1 : fp y < 16404) : Pair (ny y % 7) (ny (y + 1) - ny y) (ny (y + 2) - ny (y + 1)) := by
  have e1 : y + 1 - 1 = y := by omega
  have e2 : y + 2 - 1 = y + 1 := by omega
  have e3 : y + 1 + 1 = y + 2 := by omega
  have n0 := ny_0c (y := y) (by omega) hp
  have s0 := dd_a (y := y) hl (by omega)
  have n1 := ny_246 (y := (y + 1)) (by omega)
  have s1 := dd_d (y := (y + 1)) hn (by omega)
  rw [e3] at s1
  have n2 := ny_35 (y := (y + 2)) (by omega)
  exact pair_of (a := 0) (b := 355) (c := 383) (by omega) (by omega) (by omega) (by decide)
theorem p_leaf195 {y : Int} (hp : leapB (y - 1) = false) (hl : leapB y = false) (hn : leapB (y + 1) = true) (hm : leapB (y + 2) = false) (hw : dd y % 7 = 0) (h0 : 16404 ≤ fp y) (h1 : fp y < 19055) : Pair (ny y % 7) (ny (y + 1) - ny y) (ny (y + 2) - ny (y + 1)) := by
  have e1 : y + 1 - 1 = y := by omega
  have e2 : y + 2 - 1 = y + 1 := by omega
  have e3 : y + 1 + 1 = y + 2 := by omega
  have n0 := ny_0c (y := y) (by omega) hp
  have s0 := dd_b (y := y) hl (by omega)
  have n1 := ny_35 (y := (y + 1)) (by omega)
  have s1 := dd_c (y := (y + 1)) hn (by omega)
  rw [e3] at s1
  have n2 := ny_35 (y := (y + 2)) (by omega)
  exact pair_of (a := 0) (b := 355) (c := 383) (by omega) (by omega) (by omega) (by decide)
theorem p_leaf196 {y : Int} (hp : leapB (y - 1) = false) (hl : leapB y = false) (hn : leapB (y + 1) = true) (hm : leapB (y + 2) = false) (hw : dd y % 7 = 0) (h0 : 19055 ≤ fp y) (h1 : fp y < 21706) : Pair (ny y % 7) (ny (y + 1) - ny y) (ny (y + 2) - ny (y + 1)) := by
  have e1 : y + 1 - 1 = y := by omega
  have e2 : y + 2 - 1 = y + 1 := by omega
  have e3 : y + 1 + 1 = y + 2 := by omega
  have n0 := ny_0c (y := y) (by omega) hp
  have s0 := dd_b (y := y) hl (by omega)
  have n1 := ny_35 (y := (y + 1)) (by omega)
  have s1 := dd_d (y := (y + 1)) hn (by omega)
  rw [e3] at s1
  have n2 := ny_246 (y := (y + 2)) (by omega)
  exact pair_of (a := 0) (b := 355) (c := 385) (by omega) (by omega) (by omega) (by decide)
theorem p_leaf197 {y : Int} (hp : leapB (y - 1) = false) (hl : leapB y = false) (hn : leapB (y + 1) = true) (hm : leapB (y + 2) = false) (hw : dd y % 7 = 0) (h0 : 21706 ≤ fp y) (h1 : fp y < 23269) : Pair (ny y % 7) (ny (y + 1) - ny y) (ny (y + 2) - ny (y + 1)) := by
  have e1 : y + 1 - 1 = y := by omega
  have e2 : y + 2 - 1 = y + 1 := by omega
  have e3 : y + 1 + 1 = y + 2 := by omega
  have n0 := ny_0c (y := y) (by omega) hp
  have s0 := dd_b (y := y) hl (by omega)
  have n1 := ny_35 (y := (y + 1)) (by omega)
  have s1 := dd_d (y := (y + 1)) hn (by omega)
  rw [e3] at s1
  have n2 := ny_246 (y := (y + 2)) (by omega)
  exact pair_of (a := 0) (b := 355) (c := 385) (by omega) (by omega) (by omega) (by decide)
theorem p_leaf198 {y : Int} (hp : leapB (y - 1) = false) (hl : leapB y = false) (hn : leapB (y + 1) = true) (hm : leapB (y + 2) = false) (hw : dd y % 7 = 0) (h0 : 23269 ≤ fp y) (h1 : fp y < 25920) : Pair (ny y % 7) (ny (y + 1) - ny y) (ny (y + 2) - ny (y + 1)) := by
  have e1 : y + 1 - 1 = y := by omega
  have e2 : y + 2 - 1 = y + 1 := by omega
  have e3 : y + 1 + 1 = y + 2 := by omega
  have n0 := ny_0c (y := y) (by omega) hp
  have s0 := dd_b (y := y) hl (by omega)
  have n1 := ny_35 (y := (y + 1)) (by omega)
  have s1 := dd_d (y := (y + 1)) hn (by omega)
  rw [e3] at s1
  have n2 := ny_246 (y := (y + 2)) (by omega)
  exact pair_of (a := 0) (b := 355) (c := 385) (by omega) (by omega) (by omega) (by decide)
theorem p_leaf199 {y : Int} (hp : leapB (y - 1) = false) (hl : leapB y = false) (hn : leapB (y + 1) = true) (hm : leapB (y + 2) = false) (hw : dd y % 7 = 1) (h0 : 0 ≤ fp y) (h1 : fp y < 2651) : Pair (ny y % 7) (ny (y + 1) - ny y) (ny (y + 2) - ny (y + 1)) := by
  have e1 : y + 1 - 1 = y := by omega
  have e2 : y + 2 - 1 = y + 1 := by omega
  have e3 : y + 1 + 1 = y + 2 := by omega
  have n0 := ny_1b (y := y) (by omega) (by omega)
  have s0 := dd_a (y := y) hl (by omega)
  have n1 := ny_35 (y := (y + 1)) (by omega)
  have s1 := dd_d (y := (y + 1)) hn (by omega)
  rw [e3] at s1
  have n2 := ny_246 (y := (y + 2)) (by omega)
  exact pair_of (a := 1) (b := 354) (c := 385) (by omega) (by omega) (by omega) (by decide)
theorem p_leaf200 {y : Int} (hp : leapB (y - 1) = false) (hl : leapB y = false) (hn : leapB (y + 1) = true) (hm : leapB (y + 2) = false) (hw : dd y % 7 = 1) (h0 : 2651 ≤ fp y) (h1 : fp y < 6888) : Pair (ny y % 7) (ny (y + 1) - ny y) (ny (y + 2) - ny (y + 1)) := by
  have e1 : y + 1 - 1 = y := by omega
  have e2 : y + 2 - 1 = y + 1 := by omega
  have e3 : y + 1 + 1 = y + 2 := by omega
  have n0 := ny_1b (y := y) (by omega) (by omega)
  have s0 := dd_a (y := y) hl (by omega)
  have n1 := ny_35 (y := (y + 1)) (by omega)
  have s1 := dd_d (y := (y + 1)) hn (by omega)
  rw [e3] at s1
  have n2 := ny_246 (y := (y + 2)) (by omega)
  exact pair_of (a := 1) (b := 354) (c := 385) (by omega) (by omega) (by omega) (by decide)
theorem p_leaf201 {y : Int} (hp : leapB (y - 1) = false) (hl : leapB y = false) (hn : leapB (y + 1) = true) (hm : leapB (y + 2) = false) (hw : dd y % 7 = 1) (h0 : 6888 ≤ fp y) (h1 : fp y < 9539) : Pair (ny y % 7) (ny (y + 1) - ny y) (ny (y + 2) - ny (y + 1)) := by
  have e1 : y + 1 - 1 = y := by omega
  have e2 : y + 2 - 1 = y + 1 := by omega
  have e3 : y + 1 + 1 = y + 2 := by omega
  have n0 := ny_1b (y := y) (by omega) (by omega)
  have s0 := dd_a (y := y) hl (by omega)
  have n1 := ny_35 (y := (y + 1)) (by omega)
  have s1 := dd_d (y := (y + 1)) hn (by omega)
  rw [e3] at s1
  have n2 := ny_246 (y := (y + 2)) (by omega)
  exact pair_of (a := 1) (b := 354) (c := 385) (by omega) (by omega) (by omega) (by decide)
theorem p_leaf202 {y : Int} (hp : leapB (y - 1) = false) (hl : leapB y = false) (hn : leapB (y + 1) = true) (hm : leapB (y + 2) = false) (hw : dd y % 7 = 1) (h0 : 9539 ≤ fp y) (h1 : fp y < 13753) : Pair (ny y % 7) (ny (y + 1) - ny y) (ny (y + 2) - ny (y + 1)) := by
  have e1 : y + 1 - 1 = y := by omega
  have e2 : y + 2 - 1 = y + 1 := by omega
  have e3 : y + 1 + 1 = y + 2 := by omega
  have n0 := ny_1b (y := y) (by omega) (by omega)
  have s0 := dd_a (y := y) hl (by omega)
  have n1 := ny_35 (y := (y + 1)) (by omega)
  have s1 := dd_d (y := (y + 1)) hn (by omega)
  rw [e3] at s1
  have n2 := ny_246 (y := (y + 2)) (by omega)
  exact pair_of (a := 1) (b := 354) (c := 385) (by omega) (by omega) (by omega) (by decide)
theorem p_leaf203 {y : Int} (hp : leapB (y - 1) = false) (hl : leapB y = false) (hn : leapB (y + 1) = true) (hm : leapB (y + 2) = false) (hw : dd y % 7 = 1) (h0 : 13753 ≤ fp y) (h1 : fp y < 16404) : Pair (ny y % 7) (ny (y + 1) - ny y) (ny (y + 2) - ny (y + 1)) := by
  have e1 : y + 1 - 1 = y := by omega
  have e2 : y + 2 - 1 = y + 1 := by omega
  have e3 : y + 1 + 1 = y + 2 := by omega
  have n0 := ny_1b (y := y) (by omega) (by omega)
  have s0 := dd_a (y := y) hl (by omega)
  have n1 := ny_35 (y := (y + 1)) (by omega)
  have s1 := dd_d (y := (y + 1)) hn (by omega)
  rw [e3] at s1
  have n2 := ny_246 (y := (y + 2)) (by omega)
  exact pair_of (a := 1) (b := 354) (c := 385) (by omega) (by omega) (by omega) (by decide)
theorem p_leaf204 {y : Int} (hp : leapB (y - 1) = false) (hl : leapB y = false) (hn : leapB (y + 1) = true) (hm : leapB (y + 2) = false) (hw : dd y % 7 = 1) (h0 : 16404 ≤ fp y) (h1 : fp y < 19055) : Pair (ny y % 7) (ny (y + 1) - ny y) (ny (y + 2) - ny (y + 1)) := by
  have e1 : y + 1 - 1 = y := by omega
  have e2 : y + 2 - 1 = y + 1 := by omega
  have e3 : y + 1 + 1 = y + 2 := by omega
  have n0 := ny_1a (y := y) (by omega) (by omega) hl
  have s0 := dd_b (y := y) hl (by omega)
  have n1 := ny_246 (y := (y + 1)) (by omega)
  have s1 := dd_c (y := (y + 1)) hn (by omega)
  rw [e3] at s1
  have n2 := ny_246 (y := (y + 2)) (by omega)
  exact pair_of (a := 3) (b := 354) (c := 383) (by omega) (by omega) (by omega) (by decide)
theorem p_leaf205 {y : Int} (hp : leapB (y - 1) = false) (hl : leapB y = false) (hn : leapB (y + 1) = true) (hm : leapB (y + 2) = false) (hw : dd y % 7 = 1) (h0 : 19055 ≤ fp y) (h1 : fp y < 21706) : Pair (ny y % 7) (ny (y + 1) - ny y) (ny (y + 2) - ny (y + 1)) := by
  have e1 : y + 1 - 1 = y := by omega
  have e2 : y + 2 - 1 = y + 1 := by omega
  have e3 : y + 1 + 1 = y + 2 := by omega
  have n0 := ny_1a (y := y) (by omega) (by omega) hl
  have s0 := dd_b (y := y) hl (by omega)
  have n1 := ny_246 (y := (y + 1)) (by omega)
  have s1 := dd_d (y := (y + 1)) hn (by omega)
  rw [e3] at s1
  have n2 := ny_35 (y := (y + 2)) (by omega)
  exact pair_of (a := 3) (b := 354) (c := 383) (by omega) (by omega) (by omega) (by decide)
theorem p_leaf206 {y : Int} (hp : leapB (y - 1) = false) (hl : leapB y = false) (hn : leapB (y + 1) = true) (hm : leapB (y + 2) = false) (hw : dd y % 7 = 1) (h0 : 21706 ≤ fp y) (h1 : fp y < 23269) : Pair (ny y % 7) (ny (y + 1) - ny y) (ny (y + 2) - ny (y + 1)) := by
  have e1 : y + 1 - 1 = y := by omega
  have e2 : y + 2 - 1 = y + 1 := by omega
  have e3 : y + 1 + 1 = y + 2 := by omega
  have n0 := ny_1a (y := y) (by omega) (by omega) hl
  have s0 := dd_b (y := y) hl (by omega)
  have n1 := ny_246 (y := (y + 1)) (by omega)
  have s1 := dd_d (y := (y + 1)) hn (by omega)
  rw [e3] at s1
  have n2 := ny_35 (y := (y + 2)) (by omega)
  exact pair_of (a := 3) (b := 354) (c := 383) (by omega) (by omega) (by omega) (by decide)
theorem p_leaf207 {y : Int} (hp : leapB (y - 1) = false) (hl : leapB y = false) (hn : leapB (y + 1) = true) (hm : leapB (y + 2) = false) (hw : dd y % 7 = 1) (h0 : 23269 ≤ fp y) (h1 : fp y < 25920) : Pair (ny y % 7) (ny (y + 1) - ny y) (ny (y + 2) - ny (y + 1)) := by
  have e1 : y + 1 - 1 = y := by omega
  have e2 : y + 2 - 1 = y + 1 := by omega
  have e3 : y + 1 + 1 = y + 2 := by omega
  have n0 := ny_1a (y := y) (by omega) (by omega) hl
  have s0 := dd_b (y := y) hl (by omega)
  have n1 := ny_246 (y := (y + 1)) (by omega)
  have s1 := dd_d (y := (y + 1)) hn (by omega)
  rw [e3] at s1
  have n2 := ny_35 (y := (y + 2)) (by omega)
  exact pair_of (a := 3) (b := 354) (c := 383) (by omega) (by omega) (by omega) (by decide)
theorem p_leaf208 {y : Int} (hp : leapB (y - 1) = false) (hl : leapB y = false) (hn : leapB (y + 1) = true) (hm : leapB (y + 2) = false) (hw : dd y % 7 = 2) (h0 : 0 ≤ fp y) (h1 : fp y < 2651) : Pair (ny y % 7) (ny (y + 1) - ny y) (ny (y + 2) - ny (y + 1)) := by
  have e1 : y + 1 - 1 = y := by omega
  have e2 : y + 2 - 1 = y + 1 := by omega
  have e3 : y + 1 + 1 = y + 2 := by omega
  have n0 := ny_246 (y := y) (by omega)
  have s0 := dd_a (y := y) hl (by omega)
  have n1 := ny_246 (y := (y + 1)) (by omega)
  have s1 := dd_d (y := (y + 1)) hn (by omega)
  rw [e3] at s1
  have n2 := ny_35 (y := (y + 2)) (by omega)
  exact pair_of (a := 3) (b := 354) (c := 383) (by omega) (by omega) (by omega) (by decide)
theorem p_leaf209 {y : Int} (hp : leapB (y - 1) = false) (hl : leapB y = false) (hn : leapB (y + 1) = true) (hm : leapB (y + 2) = false) (hw : dd y % 7 = 2) (h0 : 2651 ≤ fp y) (h1 : fp y < 6888) : Pair (ny y % 7) (ny (y + 1) - ny y) (ny (y + 2) - ny (y + 1)) := by
  have e1 : y + 1 - 1 = y := by omega
  have e2 : y + 2 - 1 = y + 1 := by omega
  have e3 : y + 1 + 1 = y + 2 := by omega
  have n0 := ny_246 (y := y) (by omega)
  have s0 := dd_a (y := y) hl (by omega)
  have n1 := ny_246 (y := (y + 1)) (by omega)
  have s1 := dd_d (y := (y + 1)) hn (by omega)
  rw [e3] at s1
  have n2 := ny_35 (y := (y + 2)) (by omega)
  exact pair_of (a := 3) (b := 354) (c := 383) (by omega) (by omega) (by omega) (by decide)
theorem p_leaf210 {y : Int} (hp : leapB (y - 1) = false) (hl : leapB y = false) (hn : leapB (y + 1) = true) (hm : leapB (y + 2) = false) (hw : dd y % 7 = 2) (h0 : 6888 ≤ fp y) (h1 : fp y < 9539) : Pair (ny y % 7) (ny (y + 1) - ny y) (ny (y + 2) - ny (y + 1)) := by
  have e1 : y + 1 - 1 = y := by omega
  have e2 : y + 2 - 1 = y + 1 := by omega
  have e3 : y + 1 + 1 = y + 2 := by omega
  have n0 := ny_246 (y := y) (by omega)
  have s0 := dd_a (y := y) hl (by omega)
  have n1 := ny_246 (y := (y + 1)) (by omega)
  have s1 := dd_d (y := (y + 1)) hn (by omega)
  rw [e3] at s1
  have n2 := ny_35 (y := (y + 2)) (by omega)
  exact pair_of (a := 3) (b := 354) (c := 383) (by omega) (by omega) (by omega) (by decide)
theorem p_leaf211 {y : Int} (hp : leapB (y - 1) = false) (hl : leapB y = false) (hn : leapB (y + 1) = true) (hm : leapB (y + 2) = false) (hw : dd y % 7 = 2) (h0 : 9539 ≤ fp y) (h1 : fp y < 13753) : Pair (ny y % 7) (ny (y + 1) - ny y) (ny (y + 2) - ny (y + 1)) := by
  have e1 : y + 1 - 1 = y := by omega
  have e2 : y + 2 - 1 = y + 1 := by omega
  have e3 : y + 1 + 1 = y + 2 := by omega
  have n0 := ny_246 (y := y) (by omega)
  have s0 := dd_a (y := y) hl (by omega)
  have n1 := ny_246 (y := (y + 1)) (by omega)
  have s1 := dd_d (y := (y + 1)) hn (by omega)
  rw [e3] at s1
  have n2 := ny_35 (y := (y + 2)) (by omega)
  exact pair_of (a := 3) (b := 354) (c := 383) (by omega) (by omega) (by omega) (by decide)
theorem p_leaf212 {y : Int} (hp : leapB (y - 1) = false) (hl : leapB y = false) (hn : leapB (y + 1) = true) (hm : leapB (y + 2) = false) (hw : dd y % 7 = 2) (h0 : 13753 ≤ fp y) (h1 : fp y < 16404) : Pair (ny y % 7) (ny (y + 1) - ny y) (ny (y + 2) - ny (y + 1)) := by
  have e1 : y + 1 - 1 = y := by omega
  have e2 : y + 2 - 1 = y + 1 := by omega
  have e3 : y + 1 + 1 = y + 2 := by omega
  have n0 := ny_246 (y := y) (by omega)
  have s0 := dd_a (y := y) hl (by omega)
  have n1 := ny_246 (y := (y + 1)) (by omega)
  have s1 := dd_d (y := (y + 1)) hn (by omega)
  rw [e3] at s1
  have n2 := ny_35 (y := (y + 2)) (by omega)
  exact pair_of (a := 3) (b := 354) (c := 383) (by omega) (by omega) (by omega) (by decide)
theorem p_leaf213 {y : Int} (hp : leapB (y - 1) = false) (hl : leapB y = false) (hn : leapB (y + 1) = true) (hm : leapB (y + 2) = false) (hw : dd y % 7 = 2) (h0 : 16404 ≤ fp y) (h1 : fp y < 19055) : Pair (ny y % 7) (ny (y + 1) - ny y) (ny (y + 2) - ny (y + 1)) := by
  have e1 : y + 1 - 1 = y := by omega
  have e2 : y + 2 - 1 = y + 1 := by omega
  have e3 : y + 1 + 1 = y + 2 := by omega
  have n0 := ny_246 (y := y) (by omega)
  have s0 := dd_b (y := y) hl (by omega)
  have n1 := ny_0c (y := (y + 1)) (by omega) (by rw [e1]; exact hl)
  have s1 := dd_c (y := (y + 1)) hn (by omega)
  rw [e3] at s1
  have n2 := ny_35 (y := (y + 2)) (by omega)
  exact pair_of (a := 3) (b := 354) (c := 383) (by omega) (by omega) (by omega) (by decide)
theorem p_leaf214 {y : Int} (hp : leapB (y - 1) = false) (hl : leapB y = false) (hn : leapB (y + 1) = true) (hm : leapB (y + 2) = false) (hw : dd y % 7 = 2) (h0 : 19055 ≤ fp y) (h1 : fp y < 21706) : Pair (ny y % 7) (ny (y + 1) - ny y) (ny (y + 2) - ny (y + 1)) := by
  have e1 : y + 1 - 1 = y := by omega
  have e2 : y + 2 - 1 = y + 1 := by omega
  have e3 : y + 1 + 1 = y + 2 := by omega
  have n0 := ny_246 (y := y) (by omega)
  have s0 := dd_b (y := y) hl (by omega)
  have n1 := ny_0c (y := (y + 1)) (by omega) (by rw [e1]; exact hl)
  have s1 := dd_d (y := (y + 1)) hn (by omega)
  rw [e3] at s1
  have n2 := ny_246 (y := (y + 2)) (by omega)
  exact pair_of (a := 3) (b := 354) (c := 385) (by omega) (by omega) (by omega) (by decide)
theorem p_leaf215 {y : Int} (hp : leapB (y - 1) = false) (hl : leapB y = false) (hn : leapB (y + 1) = true) (hm : leapB (y + 2) = false) (hw : dd y % 7 = 2) (h0 : 21706 ≤ fp y) (h1 : fp y < 23269) : Pair (ny y % 7) (ny (y + 1) - ny y) (ny (y + 2) - ny (y + 1)) := by
  have e1 : y + 1 - 1 = y := by omega
  have e2 : y + 2 - 1 = y + 1 := by omega
  have e3 : y + 1 + 1 = y + 2 := by omega
  have n0 := ny_246 (y := y) (by omega)
  have s0 := dd_b (y := y) hl (by omega)
  have n1 := ny_0c (y := (y + 1)) (by omega) (by rw [e1]; exact hl)
  have s1 := dd_d (y := (y + 1)) hn (by omega)
  rw [e3] at s1
  have n2 := ny_246 (y := (y + 2)) (by omega)
  exact pair_of (a := 3) (b := 354) (c := 385) (by omega) (by omega) (by omega) (by decide)
theorem p_leaf216 {y : Int} (hp : leapB (y - 1) = false) (hl : leapB y = false) (hn : leapB (y + 1) = true) (hm : leapB (y + 2) = false) (hw : dd y % 7 = 2) (h0 : 23269 ≤ fp y) (h1 : fp y < 25920) : Pair (ny y % 7) (ny (y + 1) - ny y) (ny (y + 2) - ny (y + 1)) := by
  have e1 : y + 1 - 1 = y := by omega
  have e2 : y + 2 - 1 = y + 1 := by omega
  have e3 : y + 1 + 1 = y + 2 := by omega
  have n0 := ny_246 (y := y) (by omega)
  have s0 := dd_b (y := y) hl (by omega)
  have n1 := ny_0c (y := (y + 1)) (by omega) (by rw [e1]; exact hl)
  have s1 := dd_d (y := (y + 1)) hn (by omega)
  rw [e3] at s1
  have n2 := ny_246 (y := (y + 2)) (by omega)
  exact pair_of (a := 3) (b := 354) (c := 385) (by omega) (by omega) (by omega) (by decide)
theorem p_leaf217 {y : Int} (hp : leapB (y - 1) = false) (hl : leapB y = false) (hn : leapB (y + 1) = true) (hm : leapB (y + 2) = false) (hw : dd y % 7 = 3) (h0 : 0 ≤ fp y) (h1 : fp y < 2651) : Pair (ny y % 7) (ny (y + 1) - ny y) (ny (y + 2) - ny (y + 1)) := by
  have e1 : y + 1 - 1 = y := by omega
  have e2 : y + 2 - 1 = y + 1 := by omega
  have e3 : y + 1 + 1 = y + 2 := by omega
  have n0 := ny_35 (y := y) (by omega)
  have s0 := dd_a (y := y) hl (by omega)
  have n1 := ny_0c (y := (y + 1)) (by omega) (by rw [e1]; exact hl)
  have s1 := dd_d (y := (y + 1)) hn (by omega)
  rw [e3] at s1
  have n2 := ny_246 (y := (y + 2)) (by omega)
  exact pair_of (a := 3) (b := 354) (c := 385) (by omega) (by omega) (by omega) (by decide)
theorem p_leaf218 {y : Int} (hp : leapB (y - 1) = false) (hl : leapB y = false) (hn : leapB (y + 1) = true) (hm : leapB (y + 2) = false) (hw : dd y % 7 = 3) (h0 : 2651 ≤ fp y) (h1 : fp y < 6888) : Pair (ny y % 7) (ny (y + 1) - ny y) (ny (y + 2) - ny (y + 1)) := by
  have e1 : y + 1 - 1 = y := by omega
  have e2 : y + 2 - 1 = y + 1 := by omega
  have e3 : y + 1 + 1 = y + 2 := by omega
  have n0 := ny_35 (y := y) (by omega)
  have s0 := dd_a (y := y) hl (by omega)
  have n1 := ny_0c (y := (y + 1)) (by omega) (by rw [e1]; exact hl)
  have s1 := dd_d (y := (y + 1)) hn (by omega)
  rw [e3] at s1
  have n2 := ny_246 (y := (y + 2)) (by omega)
  exact pair_of (a := 3) (b := 354) (c := 385) (by omega) (by omega) (by omega) (by decide)
theorem p_leaf219 {y : Int} (hp : leapB (y - 1) = false) (hl : leapB y = false) (hn : leapB (y + 1) = true) (hm : leapB (y + 2) = false) (hw : dd y % 7 = 3) (h0 : 6888 ≤ fp y) (h1 : fp y < 9539) : Pair (ny y % 7) (ny (y + 1) - ny y) (ny (y + 2) - ny (y + 1)) := by
  have e1 : y + 1 - 1 = y := by omega
  have e2 : y + 2 - 1 = y + 1 := by omega
  have e3 : y + 1 + 1 = y + 2 := by omega
  have n0 := ny_35 (y := y) (by omega)
  have s0 := dd_a (y := y) hl (by omega)
  have n1 := ny_0c (y := (y + 1)) (by omega) (by rw [e1]; exact hl)
  have s1 := dd_d (y := (y + 1)) hn (by omega)
  rw [e3] at s1
  have n2 := ny_246 (y := (y + 2)) (by omega)
  exact pair_of (a := 3) (b := 354) (c := 385) (by omega) (by omega) (by omega) (by decide)
theorem p_leaf220 {y : Int} (hp : leapB (y - 1) = false) (hl : leapB y = false) (hn : leapB (y + 1) = true) (hm : leapB (y + 2) = false) (hw : dd y % 7 = 3) (h0 : 9539 ≤ fp y) (h1 : fp y < 13753) : Pair (ny y % 7) (ny (y + 1) - ny y) (ny (y + 2) - ny (y + 1)) := by
  have e1 : y + 1 - 1 = y := by omega
  have e2 : y + 2 - 1 = y + 1 := by omega
  have e3 : y + 1 + 1 = y + 2 := by omega
  have n0 := ny_35 (y := y) (by omega)
  have s0 := dd_a (y := y) hl (by omega)
  have n1 := ny_0c (y := (y + 1)) (by omega) (by rw [e1]; exact hl)
  have s1 := dd_d (y := (y + 1)) hn (by omega)
  rw [e3] at s1
  have n2 := ny_246 (y := (y + 2)) (by omega)
  exact pair_of (a := 3) (b := 354) (c := 385) (by omega) (by omega) (by omega) (by decide)
theorem p_leaf221 {y : Int} (hp : leapB (y - 1) = false) (hl : leapB y = false) (hn : leapB (y + 1) = true) (hm : leapB (y + 2) = false) (hw : dd y % 7 = 3) (h0 : 13753 ≤ fp y) (h1 : fp y < 16404) : Pair (ny y % 7) (ny (y + 1) - ny y) (ny (y + 2) - ny (y + 1)) := by
  have e1 : y + 1 - 1 = y := by omega
  have e2 : y + 2 - 1 = y + 1 := by omega
  have e3 : y + 1 + 1 = y + 2 := by omega
  have n0 := ny_35 (y := y) (by omega)
  have s0 := dd_a (y := y) hl (by omega)
  have n1 := ny_0c (y := (y + 1)) (by omega) (by rw [e1]; exact hl)
  have s1 := dd_d (y := (y + 1)) hn (by omega)
  rw [e3] at s1
  have n2 := ny_246 (y := (y + 2)) (by omega)
  exact pair_of (a := 3) (b := 354) (c := 385) (by omega) (by omega) (by omega) (by decide)
theorem p_leaf222 {y : Int} (hp : leapB (y - 1) = false) (hl : leapB y = false) (hn : leapB (y + 1) = true) (hm : leapB (y + 2) = false) (hw : dd y % 7 = 3) (h0 : 16404 ≤ fp y) (h1 : fp y < 19055) : Pair (ny y % 7) (ny (y + 1) - ny y) (ny (y + 2) - ny (y + 1)) := by
  have e1 : y + 1 - 1 = y := by omega
  have e2 : y + 2 - 1 = y + 1 := by omega
  have e3 : y + 1 + 1 = y + 2 := by omega
  have n0 := ny_35 (y := y) (by omega)
  have s0 := dd_b (y := y) hl (by omega)
  have n1 := ny_1c (y := (y + 1)) (by omega) hn
  have s1 := dd_c (y := (y + 1)) hn (by omega)
  rw [e3] at s1
  have n2 := ny_246 (y := (y + 2)) (by omega)
  exact pair_of (a := 3) (b := 355) (c := 384) (by omega) (by omega) (by omega) (by decide)
theorem p_leaf223 {y : Int} (hp : leapB (y - 1) = false) (hl : leapB y = false) (hn : leapB (y + 1) = true) (hm : leapB (y + 2) = false) (hw : dd y % 7 = 3) (h0 : 19055 ≤ fp y) (h1 : fp y < 21706) : Pair (ny y % 7) (ny (y + 1) - ny y) (ny (y + 2) - ny (y + 1)) := by
  have e1 : y + 1 - 1 = y := by omega
  have e2 : y + 2 - 1 = y + 1 := by omega
  have e3 : y + 1 + 1 = y + 2 := by omega
  have n0 := ny_35 (y := y) (by omega)
  have s0 := dd_b (y := y) hl (by omega)
  have n1 := ny_1c (y := (y + 1)) (by omega) hn
  have s1 := dd_d (y := (y + 1)) hn (by omega)
  rw [e3] at s1
  have n2 := ny_0b (y := (y + 2)) (by omega) (by omega)
  exact pair_of (a := 3) (b := 355) (c := 384) (by omega) (by omega) (by omega) (by decide)
theorem p_leaf224 {y : Int} (hp : leapB (y - 1) = false) (hl : leapB y = false) (hn : leapB (y + 1) = true) (hm : leapB (y + 2) = false) (hw : dd y % 7 = 3) (h0 : 21706 ≤ fp y) (h1 : fp y < 23269) : Pair (ny y % 7) (ny (y + 1) - ny y) (ny (y + 2) - ny (y + 1)) := by
  have e1 : y + 1 - 1 = y := by omega
  have e2 : y + 2 - 1 = y + 1 := by omega
  have e3 : y + 1 + 1 = y + 2 := by omega
  have n0 := ny_35 (y := y) (by omega)
  have s0 := dd_b (y := y) hl (by omega)
  have n1 := ny_1c (y := (y + 1)) (by omega) hn
  have s1 := dd_d (y := (y + 1)) hn (by omega)
  rw [e3] at s1
  have n2 := ny_0b (y := (y + 2)) (by omega) (by omega)
  exact pair_of (a := 3) (b := 355) (c := 384) (by omega) (by omega) (by omega) (by decide)
theorem p_leaf225 {y : Int} (hp : leapB (y - 1) = false) (hl : leapB y = false) (hn : leapB (y + 1) = true) (hm : leapB (y + 2) = false) (hw : dd y % 7 = 3) (h0 : 23269 ≤ fp y) (h1 : fp y < 25920) : Pair (ny y % 7) (ny (y + 1) - ny y) (ny (y + 2) - ny (y + 1)) := by
  have e1 : y + 1 - 1 = y := by omega
  have e2 : y + 2 - 1 = y + 1 := by omega
  have e3 : y + 1 + 1 = y + 2 := by omega
  have n0 := ny_35 (y := y) (by omega)
  have s0 := dd_b (y := y) hl (by omega)
  have n1 := ny_1c (y := (y + 1)) (by omega) hn
  have s1 := dd_d (y := (y + 1)) hn (by omega)
  rw [e3] at s1
  have n2 := ny_0b (y := (y + 2)) (by omega) (by omega)
  exact pair_of (a := 3) (b := 355) (c := 384) (by omega) (by omega) (by omega) (by decide)
theorem p_leaf226 {y : Int} (hp : leapB (y - 1) = false) (hl : leapB y = false) (hn : leapB (y + 1) = true) (hm : leapB (y + 2) = false) (hw : dd y % 7 = 4) (h0 : 0 ≤ fp y) (h1 : fp y < 2651) : Pair (ny y % 7) (ny (y + 1) - ny y) (ny (y + 2) - ny (y + 1)) := by
  have e1 : y + 1 - 1 = y := by omega
  have e2 : y + 2 - 1 = y + 1 := by omega
  have e3 : y + 1 + 1 = y + 2 := by omega
  have n0 := ny_246 (y := y) (by omega)
  have s0 := dd_a (y := y) hl (by omega)
  have n1 := ny_1c (y := (y + 1)) (by omega) hn
  have s1 := dd_d (y := (y + 1)) hn (by omega)
  rw [e3] at s1
  have n2 := ny_0b (y := (y + 2)) (by omega) (by omega)
  exact pair_of (a := 5) (b := 353) (c := 384) (by omega) (by omega) (by omega) (by decide)
theorem p_leaf227 {y : Int} (hp : leapB (y - 1) = false) (hl : leapB y = false) (hn : leapB (y + 1) = true) (hm : leapB (y + 2) = false) (hw : dd y % 7 = 4) (h0 : 2651 ≤ fp y) (h1 : fp y < 6888) : Pair (ny y % 7) (ny (y + 1) - ny y) (ny (y + 2) - ny (y + 1)) := by
  have e1 : y + 1 - 1 = y := by omega
  have e2 : y + 2 - 1 = y + 1 := by omega
  have e3 : y + 1 + 1 = y + 2 := by omega
  have n0 := ny_246 (y := y) (by omega)
  have s0 := dd_a (y := y) hl (by omega)
  have n1 := ny_1c (y := (y + 1)) (by omega) hn
  have s1 := dd_d (y := (y + 1)) hn (by omega)
  rw [e3] at s1
  have n2 := ny_0b (y := (y + 2)) (by omega) (by omega)
  exact pair_of (a := 5) (b := 353) (c := 384) (by omega) (by omega) (by omega) (by decide)
theorem p_leaf228 {y : Int} (hp : leapB (y - 1) = false) (hl : leapB y = false) (hn : leapB (y + 1) = true) (hm : leapB (y + 2) = false) (hw : dd y % 7 = 4) (h0 : 6888 ≤ fp y) (h1 : fp y < 9539) : Pair (ny y % 7) (ny (y + 1) - ny y) (ny (y + 2) - ny (y + 1)) := by
  have e1 : y + 1 - 1 = y := by omega
  have e2 : y + 2 - 1 = y + 1 := by omega
  have e3 : y + 1 + 1 = y + 2 := by omega
  have n0 := ny_246 (y := y) (by omega)
  have s0 := dd_a (y := y) hl (by omega)
  have n1 := ny_1c (y := (y + 1)) (by omega) hn
  have s1 := dd_d (y := (y + 1)) hn (by omega)
  rw [e3] at s1
  have n2 := ny_0b (y := (y + 2)) (by omega) (by omega)
  exact pair_of (a := 5) (b := 353) (c := 384) (by omega) (by omega) (by omega) (by decide)
theorem p_leaf229 {y : Int} (hp : leapB (y - 1) = false) (hl : leapB y = false) (hn : leapB (y + 1) = true) (hm : leapB (y + 2) = false) (hw : dd y % 7 = 4) (h0 : 9539 ≤ fp y) (h1 : fp y < 13753) : Pair (ny y % 7) (ny (y + 1) - ny y) (ny (y + 2) - ny (y + 1)) := by
  have e1 : y + 1 - 1 = y := by omega
  have e2 : y + 2 - 1 = y + 1 := by omega
  have e3 : y + 1 + 1 = y + 2 := by omega
  have n0 := ny_246 (y := y) (by omega)
  have s0 := dd_a (y := y) hl (by omega)
  have n1 := ny_1c (y := (y + 1)) (by omega) hn
  have s1 := dd_d (y := (y + 1)) hn (by omega)
  rw [e3] at s1
  have n2 := ny_0b (y := (y + 2)) (by omega) (by omega)
  exact pair_of (a := 5) (b := 353) (c := 384) (by omega) (by omega) (by omega) (by decide)
theorem p_leaf230 {y : Int} (hp : leapB (y - 1) = false) (hl : leapB y = false) (hn : leapB (y + 1) = true) (hm : leapB (y + 2) = false) (hw : dd y % 7 = 4) (h0 : 13753 ≤ fp y) (h1 : fp y < 16404) : Pair (ny y % 7) (ny (y + 1) - ny y) (ny (y + 2) - ny (y + 1)) := by
  have e1 : y + 1 - 1 = y := by omega
  have e2 : y + 2 - 1 = y + 1 := by omega
  have e3 : y + 1 + 1 = y + 2 := by omega
  have n0 := ny_246 (y := y) (by omega)
  have s0 := dd_a (y := y) hl (by omega)
  have n1 := ny_1c (y := (y + 1)) (by omega) hn
  have s1 := dd_d (y := (y + 1)) hn (by omega)
  rw [e3] at s1
  have n2 := ny_0b (y := (y + 2)) (by omega) (by omega)
  exact pair_of (a := 5) (b := 353) (c := 384) (by omega) (by omega) (by omega) (by decide)
theorem p_leaf231 {y : Int} (hp : leapB (y - 1) = false) (hl : leapB y = false) (hn : leapB (y + 1) = true) (hm : leapB (y + 2) = false) (hw : dd y % 7 = 4) (h0 : 16404 ≤ fp y) (h1 : fp y < 19055) : Pair (ny y % 7) (ny (y + 1) - ny y) (ny (y + 2) - ny (y + 1)) := by
  have e1 : y + 1 - 1 = y := by omega
  have e2 : y + 2 - 1 = y + 1 := by omega
  have e3 : y + 1 + 1 = y + 2 := by omega
  have n0 := ny_246 (y := y) (by omega)
  have s0 := dd_b (y := y) hl (by omega)
  have n1 := ny_246 (y := (y + 1)) (by omega)
  have s1 := dd_c (y := (y + 1)) hn (by omega)
  rw [e3] at s1
  have n2 := ny_0a (y := (y + 2)) (by omega) (by omega) (by rw [e2]; exact hn)
  exact pair_of (a := 5) (b := 355) (c := 383) (by omega) (by omega) (by omega) (by decide)
theorem p_leaf232 {y : Int} (hp : leapB (y - 1) = false) (hl : leapB y = false) (hn : leapB (y + 1) = true) (hm : leapB (y + 2) = false) (hw : dd y % 7 = 4) (h0 : 19055 ≤ fp y) (h1 : fp y < 21706) : Pair (ny y % 7) (ny (y + 1) - ny y) (ny (y + 2) - ny (y + 1)) := by
  have e1 : y + 1 - 1 = y := by omega
  have e2 : y + 2 - 1 = y + 1 := by omega
  have e3 : y + 1 + 1 = y + 2 := by omega
  have n0 := ny_246 (y := y) (by omega)
  have s0 := dd_b (y := y) hl (by omega)
  have n1 := ny_246 (y := (y + 1)) (by omega)
  have s1 := dd_d (y := (y + 1)) hn (by omega)
  rw [e3] at s1
  have n2 := ny_1b (y := (y + 2)) (by omega) (by omega)
  exact pair_of (a := 5) (b := 355) (c := 383) (by omega) (by omega) (by omega) (by decide)
theorem p_leaf233 {y : Int} (hp : leapB (y - 1) = false) (hl : leapB y = false) (hn : leapB (y + 1) = true) (hm : leapB (y + 2) = false) (hw : dd y % 7 = 4) (h0 : 21706 ≤ fp y) (h1 : fp y < 23269) : Pair (ny y % 7) (ny (y + 1) - ny y) (ny (y + 2) - ny (y + 1)) := by
  have e1 : y + 1 - 1 = y := by omega
  have e2 : y + 2 - 1 = y + 1 := by omega
  have e3 : y + 1 + 1 = y + 2 := by omega
  have n0 := ny_246 (y := y) (by omega)
  have s0 := dd_b (y := y) hl (by omega)
  have n1 := ny_246 (y := (y + 1)) (by omega)
  have s1 := dd_d (y := (y + 1)) hn (by omega)
  rw [e3] at s1
  have n2 := ny_1b (y := (y + 2)) (by omega) (by omega)
  exact pair_of (a := 5) (b := 355) (c := 383) (by omega) (by omega) (by omega) (by decide)
theorem p_leaf234 {y : Int} (hp : leapB (y - 1) = false) (hl : leapB y = false) (hn : leapB (y + 1) = true) (hm : leapB (y + 2) = false) (hw : dd y % 7 = 4) (h0 : 23269 ≤ fp y) (h1 : fp y < 25920) : Pair (ny y % 7) (ny (y + 1) - ny y) (ny (y + 2) - ny (y + 1)) := by
  have e1 : y + 1 - 1 = y := by omega
  have e2 : y + 2 - 1 = y + 1 := by omega
  have e3 : y + 1 + 1 = y + 2 := by omega
  have n0 := ny_246 (y := y) (by omega)
  have s0 := dd_b (y := y) hl (by omega)
  have n1 := ny_246 (y := (y + 1)) (by omega)
  have s1 := dd_d (y := (y + 1)) hn (by omega)
  rw [e3] at s1
  have n2 := ny_1b (y := (y + 2)) (by omega) (by omega)
  exact pair_of (a := 5) (b := 355) (c := 383) (by omega) (by omega) (by omega) (by decide)
theorem p_leaf235 {y : Int} (hp : leapB (y - 1) = false) (hl : leapB y = false) (hn : leapB (y + 1) = true) (hm : leapB (y + 2) = false) (hw : dd y % 7 = 5) (h0 : 0 ≤ fp y) (h1 : fp y < 2651) : Pair (ny y % 7) (ny (y + 1) - ny y) (ny (y + 2) - ny (y + 1)) := by
  have e1 : y + 1 - 1 = y := by omega
  have e2 : y + 2 - 1 = y + 1 := by omega
  have e3 : y + 1 + 1 = y + 2 := by omega
  have n0 := ny_35 (y := y) (by omega)
  have s0 := dd_a (y := y) hl (by omega)
  have n1 := ny_246 (y := (y + 1)) (by omega)
  have s1 := dd_d (y := (y + 1)) hn (by omega)
  rw [e3] at s1
  have n2 := ny_1b (y := (y + 2)) (by omega) (by omega)
  exact pair_of (a := 5) (b := 355) (c := 383) (by omega) (by omega) (by omega) (by decide)
theorem p_leaf236 {y : Int} (hp : leapB (y - 1) = false) (hl : leapB y = false) (hn : leapB (y + 1) = true) (hm : leapB (y + 2) = false) (hw : dd y % 7 = 5) (h0 : 2651 ≤ fp y) (h1 : fp y < 6888) : Pair (ny y % 7) (ny (y + 1) - ny y) (ny (y + 2) - ny (y + 1)) := by
  have e1 : y + 1 - 1 = y := by omega
  have e2 : y + 2 - 1 = y + 1 := by omega
  have e3 : y + 1 + 1 = y + 2 := by omega
  have n0 := ny_35 (y := y) (by omega)
  have s0 := dd_a (y := y) hl (by omega)
  have n1 := ny_246 (y := (y + 1)) (by omega)
  have s1 := dd_d (y := (y + 1)) hn (by omega)
  rw [e3] at s1
  have n2 := ny_1b (y := (y + 2)) (by omega) (by omega)
  exact pair_of (a := 5) (b := 355) (c := 383) (by omega) (by omega) (by omega) (by decide)
theorem p_leaf237 {y : Int} (hp : leapB (y - 1) = false) (hl : leapB y = false) (hn : leapB (y + 1) = true) (hm : leapB (y + 2) = false) (hw : dd y % 7 = 5) (h0 : 6888 ≤ fp y) (h1 : fp y < 9539) : Pair (ny y % 7) (ny (y + 1) - ny y) (ny (y + 2) - ny (y + 1)) := by
  have e1 : y + 1 - 1 = y := by omega
  have e2 : y + 2 - 1 = y + 1 := by omega
  have e3 : y + 1 + 1 = y + 2 := by omega
  have n0 := ny_35 (y := y) (by omega)
  have s0 := dd_a (y := y) hl (by omega)
  have n1 := ny_246 (y := (y + 1)) (by omega)
  have s1 := dd_d (y := (y + 1)) hn (by omega)
  rw [e3] at s1
  have n2 := ny_1b (y := (y + 2)) (by omega) (by omega)
  exact pair_of (a := 5) (b := 355) (c := 383) (by omega) (by omega) (by omega) (by decide)
theorem p_leaf238 {y : Int} (hp : leapB (y - 1) = false) (hl : leapB y = false) (hn : leapB (y + 1) = true) (hm : leapB (y + 2) = false) (hw : dd y % 7 = 5) (h0 : 9539 ≤ fp y) (h1 : fp y < 13753) : Pair (ny y % 7) (ny (y + 1) - ny y) (ny (y + 2) - ny (y + 1)) := by
  have e1 : y + 1 - 1 = y := by omega
  have e2 : y + 2 - 1 = y + 1 := by omega
  have e3 : y + 1 + 1 = y + 2 := by omega
  have n0 := ny_35 (y := y) (by omega)
  have s0 := dd_a (y := y) hl (by omega)
  have n1 := ny_246 (y := (y + 1)) (by omega)
  have s1 := dd_d (y := (y + 1)) hn (by omega)
  rw [e3] at s1
  have n2 := ny_1a (y := (y + 2)) (by omega) (by omega) hm
  exact pair_of (a := 5) (b := 355) (c := 385) (by omega) (by omega) (by omega) (by decide)
theorem p_leaf239 {y : Int} (hp : leapB (y - 1) = false) (hl : leapB y = false) (hn : leapB (y + 1) = true) (hm : leapB (y + 2) = false) (hw : dd y % 7 = 5) (h0 : 13753 ≤ fp y) (h1 : fp y < 16404) : Pair (ny y % 7) (ny (y + 1) - ny y) (ny (y + 2) - ny (y + 1)) := by
  have e1 : y + 1 - 1 = y := by omega
  have e2 : y + 2 - 1 = y + 1 := by omega
  have e3 : y + 1 + 1 = y + 2 := by omega
  have n0 := ny_35 (y := y) (by omega)
  have s0 := dd_a (y := y) hl (by omega)
  have n1 := ny_246 (y := (y + 1)) (by omega)
  have s1 := dd_d (y := (y + 1)) hn (by omega)
  rw [e3] at s1
  have n2 := ny_1a (y := (y + 2)) (by omega) (by omega) hm
  exact pair_of (a := 5) (b := 355) (c := 385) (by omega) (by omega) (by omega) (by decide)
theorem p_leaf240 {y : Int} (hp : leapB (y - 1) = false) (hl : leapB y = false) (hn : leapB (y + 1) = true) (hm : leapB (y + 2) = false) (hw : dd y % 7 = 5) (h0 : 16404 ≤ fp y) (h1 : fp y < 19055) : Pair (ny y % 7) (ny (y + 1) - ny y) (ny (y + 2) - ny (y + 1)) := by
  have e1 : y + 1 - 1 = y := by omega
  have e2 : y + 2 - 1 = y + 1 := by omega
  have e3 : y + 1 + 1 = y + 2 := by omega
  have n0 := ny_35 (y := y) (by omega)
  have s0 := dd_b (y := y) hl (by omega)
  have n1 := ny_35 (y := (y + 1)) (by omega)
  have s1 := dd_c (y := (y + 1)) hn (by omega)
  rw [e3] at s1
  have n2 := ny_1a (y := (y + 2)) (by omega) (by omega) hm
  exact pair_of (a := 5) (b := 355) (c := 385) (by omega) (by omega) (by omega) (by decide)
theorem p_leaf241 {y : Int} (hp : leapB (y - 1) = false) (hl : leapB y = false) (hn : leapB (y + 1) = true) (hm : leapB (y + 2) = false) (hw : dd y % 7 = 5) (h0 : 19055 ≤ fp y) (h1 : fp y < 21706) : Pair (ny y % 7) (ny (y + 1) - ny y) (ny (y + 2) - ny (y + 1)) := by
  have e1 : y + 1 - 1 = y := by omega
  have e2 : y + 2 - 1 = y + 1 := by omega
  have e3 : y + 1 + 1 = y + 2 := by omega
  have n0 := ny_35 (y := y) (by omega)
  have s0 := dd_b (y := y) hl (by omega)
  have n1 := ny_35 (y := (y + 1)) (by omega)
  have s1 := dd_d (y := (y + 1)) hn (by omega)
  rw [e3] at s1
  have n2 := ny_246 (y := (y + 2)) (by omega)
  exact pair_of (a := 5) (b := 355) (c := 385) (by omega) (by omega) (by omega) (by decide)
theorem p_leaf242 {y : Int} (hp : leapB (y - 1) = false) (hl : leapB y = false) (hn : leapB (y + 1) = true) (hm : leapB (y + 2) = false) (hw : dd y % 7 = 5) (h0 : 21706 ≤ fp y) (h1 : fp y < 23269) : Pair (ny y % 7) (ny (y + 1) - ny y) (ny (y + 2) - ny (y + 1)) := by
  have e1 : y + 1 - 1 = y := by omega
  have e2 : y + 2 - 1 = y + 1 := by omega
  have e3 : y + 1 + 1 = y + 2 := by omega
  have n0 := ny_35 (y := y) (by omega)
  have s0 := dd_b (y := y) hl (by omega)
  have n1 := ny_35 (y := (y + 1)) (by omega)
  have s1 := dd_d (y := (y + 1)) hn (by omega)
  rw [e3] at s1
  have n2 := ny_246 (y := (y + 2)) (by omega)
  exact pair_of (a := 5) (b := 355) (c := 385) (by omega) (by omega) (by omega) (by decide)
theorem p_leaf243 {y : Int} (hp : leapB (y - 1) = false) (hl : leapB y = false) (hn : leapB (y + 1) = true) (hm : leapB (y + 2) = false) (hw : dd y % 7 = 5) (h0 : 23269 ≤ fp y) (h1 : fp y < 25920) : Pair (ny y % 7) (ny (y + 1) - ny y) (ny (y + 2) - ny (y + 1)) := by
  have e1 : y + 1 - 1 = y := by omega
  have e2 : y + 2 - 1 = y + 1 := by omega
  have e3 : y + 1 + 1 = y + 2 := by omega
  have n0 := ny_35 (y := y) (by omega)
  have s0 := dd_b (y := y) hl (by omega)
  have n1 := ny_35 (y := (y + 1)) (by omega)
  have s1 := dd_d (y := (y + 1)) hn (by omega)
  rw [e3] at s1
  have n2 := ny_246 (y := (y + 2)) (by omega)
  exact pair_of (a := 5) (b := 355) (c := 385) (by omega) (by omega) (by omega) (by decide)
theorem p_leaf244 {y : Int} (hp : leapB (y - 1) = false) (hl : leapB y = false) (hn : leapB (y + 1) = true) (hm : leapB (y + 2) = false) (hw : dd y % 7 = 6) (h0 : 0 ≤ fp y) (h1 : fp y < 2651) : Pair (ny y % 7) (ny (y + 1) - ny y) (ny (y + 2) - ny (y + 1)) := by
  have e1 : y + 1 - 1 = y := by omega
  have e2 : y + 2 - 1 = y + 1 := by omega
  have e3 : y + 1 + 1 = y + 2 := by omega
  have n0 := ny_246 (y := y) (by omega)
  have s0 := dd_a (y := y) hl (by omega)
  have n1 := ny_35 (y := (y + 1)) (by omega)
  have s1 := dd_d (y := (y + 1)) hn (by omega)
  rw [e3] at s1
  have n2 := ny_246 (y := (y + 2)) (by omega)
  exact pair_of (a := 0) (b := 353) (c := 385) (by omega) (by omega) (by omega) (by decide)
theorem p_leaf245 {y : Int} (hp : leapB (y - 1) = false) (hl : leapB y = false) (hn : leapB (y + 1) = true) (hm : leapB (y + 2) = false) (hw : dd y % 7 = 6) (h0 : 2651 ≤ fp y) (h1 : fp y < 6888) : Pair (ny y % 7) (ny (y + 1) - ny y) (ny (y + 2) - ny (y + 1)) := by
  have e1 : y + 1 - 1 = y := by omega
  have e2 : y + 2 - 1 = y + 1 := by omega
  have e3 : y + 1 + 1 = y + 2 := by omega
  have n0 := ny_246 (y := y) (by omega)
  have s0 := dd_a (y := y) hl (by omega)
  have n1 := ny_35 (y := (y + 1)) (by omega)
  have s1 := dd_d (y := (y + 1)) hn (by omega)
  rw [e3] at s1
  have n2 := ny_246 (y := (y + 2)) (by omega)
  exact pair_of (a := 0) (b := 353) (c := 385) (by omega) (by omega) (by omega) (by decide)
theorem p_leaf246 {y : Int} (hp : leapB (y - 1) = false) (hl : leapB y = false) (hn : leapB (y + 1) = true) (hm : leapB (y + 2) = false) (hw : dd y % 7 = 6) (h0 : 6888 ≤ fp y) (h1 : fp y < 9539) : Pair (ny y % 7) (ny (y + 1) - ny y) (ny (y + 2) - ny (y + 1)) := by
  have e1 : y + 1 - 1 = y := by omega
  have e2 : y + 2 - 1 = y + 1 := by omega
  have e3 : y + 1 + 1 = y + 2 := by omega
  have n0 := ny_246 (y := y) (by omega)
  have s0 := dd_a (y := y) hl (by omega)
  have n1 := ny_35 (y := (y + 1)) (by omega)
  have s1 := dd_d (y := (y + 1)) hn (by omega)
  rw [e3] at s1
  have n2 := ny_246 (y := (y + 2)) (by omega)
  exact pair_of (a := 0) (b := 353) (c := 385) (by omega) (by omega) (by omega) (by decide)
theorem p_leaf247 {y : Int} (hp : leapB (y - 1) = false) (hl : leapB y = false) (hn : leapB (y + 1) = true) (hm : leapB (y + 2) = false) (hw : dd y % 7 = 6) (h0 : 9539 ≤ fp y) (h1 : fp y < 13753) : Pair (ny y % 7) (ny (y + 1) - ny y) (ny (y + 2) - ny (y + 1)) := by
  have e1 : y + 1 - 1 = y := by omega
  have e2 : y + 2 - 1 = y + 1 := by omega
  have e3 : y + 1 + 1 = y + 2 := by omega
  have n0 := ny_246 (y := y) (by omega)
  have s0 := dd_a (y := y) hl (by omega)
  have n1 := ny_35 (y := (y + 1)) (by omega)
  have s1 := dd_d (y := (y + 1)) hn (by omega)
  rw [e3] at s1
  have n2 := ny_246 (y := (y + 2)) (by omega)
  exact pair_of (a := 0) (b := 353) (c := 385) (by omega) (by omega) (by omega) (by decide)
theorem p_leaf248 {y : Int} (hp : leapB (y - 1) = false) (hl : leapB y = false) (hn : leapB (y + 1) = true) (hm : leapB (y + 2) = false) (hw : dd y % 7 = 6) (h0 : 13753 ≤ fp y) (h1 : fp y < 16404) : Pair (ny y % 7) (ny (y + 1) - ny y) (ny (y + 2) - ny (y + 1)) := by
  have e1 : y + 1 - 1 = y := by omega
  have e2 : y + 2 - 1 = y + 1 := by omega
  have e3 : y + 1 + 1 = y + 2 := by omega
  have n0 := ny_246 (y := y) (by omega)
  have s0 := dd_a (y := y) hl (by omega)
  have n1 := ny_35 (y := (y + 1)) (by omega)
  have s1 := dd_d (y := (y + 1)) hn (by omega)
  rw [e3] at s1
  have n2 := ny_246 (y := (y + 2)) (by omega)
  exact pair_of (a := 0) (b := 353) (c := 385) (by omega) (by omega) (by omega) (by decide)
theorem p_leaf249 {y : Int} (hp : leapB (y - 1) = false) (hl : leapB y = false) (hn : leapB (y + 1) = true) (hm : leapB (y + 2) = false) (hw : dd y % 7 = 6) (h0 : 16404 ≤ fp y) (h1 : fp y < 19055) : Pair (ny y % 7) (ny (y + 1) - ny y) (ny (y + 2) - ny (y + 1)) := by
  have e1 : y + 1 - 1 = y := by omega
  have e2 : y + 2 - 1 = y + 1 := by omega
  have e3 : y + 1 + 1 = y + 2 := by omega
  have n0 := ny_246 (y := y) (by omega)
  have s0 := dd_b (y := y) hl (by omega)
  have n1 := ny_246 (y := (y + 1)) (by omega)
  have s1 := dd_c (y := (y + 1)) hn (by omega)
  rw [e3] at s1
  have n2 := ny_246 (y := (y + 2)) (by omega)
  exact pair_of (a := 0) (b := 355) (c := 383) (by omega) (by omega) (by omega) (by decide)
theorem p_leaf250 {y : Int} (hp : leapB (y - 1) = false) (hl : leapB y = false) (hn : leapB (y + 1) = true) (hm : leapB (y + 2) = false) (hw : dd y % 7 = 6) (h0 : 19055 ≤ fp y) (h1 : fp y < 21706) : Pair (ny y % 7) (ny (y + 1) - ny y) (ny (y + 2) - ny (y + 1)) := by
  have e1 : y + 1 - 1 = y := by omega
  have e2 : y + 2 - 1 = y + 1 := by omega
  have e3 : y + 1 + 1 = y + 2 := by omega
  have n0 := ny_246 (y := y) (by omega)
  have s0 := dd_b (y := y) hl (by omega)
  have n1 := ny_246 (y := (y + 1)) (by omega)
  have s1 := dd_d (y := (y + 1)) hn (by omega)
  rw [e3] at s1
  have n2 := ny_35 (y := (y + 2)) (by omega)
  exact pair_of (a := 0) (b := 355) (c := 383) (by omega) (by omega) (by omega) (by decide)
theorem p_leaf251 {y : Int} (hp : leapB (y - 1) = false) (hl : leapB y = false) (hn : leapB (y + 1) = true) (hm : leapB (y + 2) = false) (hw : dd y % 7 = 6) (h0 : 21706 ≤ fp y) (h1 : fp y < 23269) : Pair (ny y % 7) (ny (y + 1) - ny y) (ny (y + 2) - ny (y + 1)) := by
  have e1 : y + 1 - 1 = y := by omega
  have e2 : y + 2 - 1 = y + 1 := by omega
  have e3 : y + 1 + 1 = y + 2 := by omega
  have n0 := ny_246 (y := y) (by omega)
  have s0 := dd_b (y := y) hl (by omega)
  have n1 := ny_246 (y := (y + 1)) (by omega)
  have s1 := dd_d (y := (y + 1)) hn (by omega)
  rw [e3] at s1
  have n2 := ny_35 (y := (y + 2)) (by omega)
  exact pair_of (a := 0) (b := 355) (c := 383) (by omega) (by omega) (by omega) (by decide)
theorem p_leaf252 {y : Int} (hp : leapB (y - 1) = false) (hl : leapB y = false) (hn : leapB (y + 1) = true) (hm : leapB (y + 2) = false) (hw : dd y % 7 = 6) (h0 : 23269 ≤ fp y) (h1 : fp y < 25920) : Pair (ny y % 7) (ny (y + 1) - ny y) (ny (y + 2) - ny (y + 1)) := by
  have e1 : y + 1 - 1 = y := by omega
  have e2 : y + 2 - 1 = y + 1 := by omega
  have e3 : y + 1 + 1 = y + 2 := by omega
  have n0 := ny_246 (y := y) (by omega)
  have s0 := dd_b (y := y) hl (by omega)
  have n1 := ny_246 (y := (y + 1)) (by omega)
  have s1 := dd_d (y := (y + 1)) hn (by omega)
  rw [e3] at s1
  have n2 := ny_35 (y := (y + 2)) (by omega)
  exact pair_of (a := 0) (b := 355) (c := 383) (by omega) (by omega) (by omega) (by decide)
theorem p_fftf {y : Int} (hp : leapB (y - 1) = false) (hl : leapB y = false) (hn : leapB (y + 1) = true) (hm : leapB (y + 2) = false) : Pair (ny y % 7) (ny (y + 1) - ny y) (ny (y + 2) - ny (y + 1)) := by
  have b0 := fp_bd y
  have hw : dd y % 7 = 0 ∨ dd y % 7 = 1 ∨ dd y % 7 = 2 ∨ dd y % 7 = 3 ∨ dd y % 7 = 4 ∨ dd y % 7 = 5 ∨ dd y % 7 = 6 := by omega
  have hi : (0 ≤ fp y ∧ fp y < 2651) ∨ (2651 ≤ fp y ∧ fp y < 6888) ∨ (6888 ≤ fp y ∧ fp y < 9539) ∨ (9539 ≤ fp y ∧ fp y < 13753) ∨ (13753 ≤ fp y ∧ fp y < 16404) ∨ (16404 ≤ fp y ∧ fp y < 19055) ∨ (19055 ≤ fp y ∧ fp y < 21706) ∨ (21706 ≤ fp y ∧ fp y < 23269) ∨ (23269 ≤ fp y ∧ fp y < 25920) := by omega
  rcases hw with hw | hw | hw | hw | hw | hw | hw <;> rcases hi with hi | hi | hi | hi | hi | hi | hi | hi | hi
  · exact p_leaf190 hp hl hn hm hw hi.1 hi.2
  · exact p_leaf191 hp hl hn hm hw hi.1 hi.2
  · exact p_leaf192 hp hl hn hm hw hi.1 hi.2
  · exact p_leaf193 hp hl hn hm hw hi.1 hi.2
  · exact p_leaf194 hp hl hn hm hw hi.1 hi.2
  · exact p_leaf195 hp hl hn hm hw hi.1 hi.2
  · exact p_leaf196 hp hl hn hm hw hi.1 hi.2
  · exact p_leaf197 hp hl hn hm hw hi.1 hi.2
  · exact p_leaf198 hp hl hn hm hw hi.1 hi.2
  · exact p_leaf199 hp hl hn hm hw hi.1 hi.2
  · exact p_leaf200 hp hl hn hm hw hi.1 hi.2
  · exact p_leaf201 hp hl hn hm hw hi.1 hi.2
  · exact p_leaf202 hp hl hn hm hw hi.1 hi.2
  · exact p_leaf203 hp hl hn hm hw hi.1 hi.2
  · exact p_leaf204 hp hl hn hm hw hi.1 hi.2
  · exact p_leaf205 hp hl hn hm hw hi.1 hi.2
  · exact p_leaf206 hp hl hn hm hw hi.1 hi.2
  · exact p_leaf207 hp hl hn hm hw hi.1 hi.2
  · exact p_leaf208 hp hl hn hm hw hi.1 hi.2
  · exact p_leaf209 hp hl hn hm hw hi.1 hi.2
  · exact p_leaf210 hp hl hn hm hw hi.1 hi.2
  · exact p_leaf211 hp hl hn hm hw hi.1 hi.2
  · exact p_leaf212 hp hl hn hm hw hi.1 hi.2
  · exact p_leaf213 hp hl hn hm hw hi.1 hi.2
  · exact p_leaf214 hp hl hn hm hw hi.1 hi.2
  · exact p_leaf215 hp hl hn hm hw hi.1 hi.2
  · exact p_leaf216 hp hl hn hm hw hi.1 hi.2
  · exact p_leaf217 hp hl hn hm hw hi.1 hi.2
  · exact p_leaf218 hp hl hn hm hw hi.1 hi.2
  · exact p_leaf219 hp hl hn hm hw hi.1 hi.2
  · exact p_leaf220 hp hl hn hm hw hi.1 hi.2
  · exact p_leaf221 hp hl hn hm hw hi.1 hi.2
  · exact p_leaf222 hp hl hn hm hw hi.1 hi.2
  · exact p_leaf223 hp hl hn hm hw hi.1 hi.2
  · exact p_leaf224 hp hl hn hm hw hi.1 hi.2
  · exact p_leaf225 hp hl hn hm hw hi.1 hi.2
  · exact p_leaf226 hp hl hn hm hw hi.1 hi.2
  · exact p_leaf227 hp hl hn hm hw hi.1 hi.2
  · exact p_leaf228 hp hl hn hm hw hi.1 hi.2
  · exact p_leaf229 hp hl hn hm hw hi.1 hi.2
  · exact p_leaf230 hp hl hn hm hw hi.1 hi.2
  · exact p_leaf231 hp hl hn hm hw hi.1 hi.2
  · exact p_leaf232 hp hl hn hm hw hi.1 hi.2
  · exact p_leaf233 hp hl hn hm hw hi.1 hi.2
  · exact p_leaf234 hp hl hn hm hw hi.1 hi.2
  · exact p_leaf235 hp hl hn hm hw hi.1 hi.2
  · exact p_leaf236 hp hl hn hm hw hi.1 hi.2
  · exact p_leaf237 hp hl hn hm hw hi.1 hi.2
  · exact p_leaf238 hp hl hn hm hw hi.1 hi.2
  · exact p_leaf239 hp hl hn hm hw hi.1 hi.2
  · exact p_leaf240 hp hl hn hm hw hi.1 hi.2
  · exact p_leaf241 hp hl hn hm hw hi.1 hi.2
  · exact p_leaf242 hp hl hn hm hw hi.1 hi.2
  · exact p_leaf243 hp hl hn hm hw hi.1 hi.2
  · exact p_leaf244 hp hl hn hm hw hi.1 hi.2
  · exact p_leaf245 hp hl hn hm hw hi.1 hi.2
  · exact p_leaf246 hp hl hn hm hw hi.1 hi.2
  · exact p_leaf247 hp hl hn hm hw hi.1 hi.2
  · exact p_leaf248 hp hl hn hm hw hi.1 hi.2
  · exact p_leaf249 hp hl hn hm hw hi.1 hi.2
  · exact p_leaf250 hp hl hn hm hw hi.1 hi.2
  · exact p_leaf251 hp hl hn hm hw hi.1 hi.2
  · exact p_leaf252 hp hl hn hm hw hi.1 hi.2
theorem p_leaf253 {y : Int} (hp : leapB (y - 1) = false) (hl : leapB y = true) (hn : leapB (y + 1) = false) (hm : leapB (y + 2) = false) (hw : dd y % 7 = 0) (h0 : 0 ≤ fp y) (h1 : fp y < 2651) : Pair (ny y % 7) (ny (y + 1) - ny y) (ny (y + 2) - ny (y + 1)) := by
  have e1 : y + 1 - 1 = y := by omega
  have e2 : y + 2 - 1 = y + 1 := by omega
  have e3 : y + 1 + 1 = y + 2 := by omega
  have n0 := ny_0c (y := y) (by omega) hp
  have s0 := dd_c (y := y) hl (by omega)
  have n1 := ny_35 (y := (y + 1)) (by omega)
  have s1 := dd_b (y := (y + 1)) hn (by omega)
  rw [e3] at s1
  have n2 := ny_35 (y := (y + 2)) (by omega)
  exact pair_of (a := 0) (b := 383) (c := 355) (by omega) (by omega) (by omega) (by decide)
theorem p_leaf254 {y : Int} (hp : leapB (y - 1) = false) (hl : leapB y = true) (hn : leapB (y + 1) = false) (hm : leapB (y + 2) = false) (hw : dd y % 7 = 0) (h0 : 2651 ≤ fp y) (h1 : fp y < 5302) : Pair (ny y % 7) (ny (y + 1) - ny y) (ny (y + 2) - ny (y + 1)) := by
  have e1 : y + 1 - 1 = y := by omega
  have e2 : y + 2 - 1 = y + 1 := by omega
  have e3 : y + 1 + 1 = y + 2 := by omega
  have n0 := ny_0c (y := y) (by omega) hp
  have s0 := dd_d (y := y) hl (by omega)
  have n1 := ny_246 (y := (y + 1)) (by omega)
  have s1 := dd_a (y := (y + 1)) hn (by omega)
  rw [e3] at s1
  have n2 := ny_35 (y := (y + 2)) (by omega)
  exact pair_of (a := 0) (b := 385) (c := 353) (by omega) (by omega) (by omega) (by decide)
theorem p_leaf255 {y : Int} (hp : leapB (y - 1) = false) (hl : leapB y = true) (hn : leapB (y + 1) = false) (hm : leapB (y + 2) = false) (hw : dd y % 7 = 0) (h0 : 5302 ≤ fp y) (h1 : fp y < 9539) : Pair (ny y % 7) (ny (y + 1) - ny y) (ny (y + 2) - ny (y + 1)) := by
  have e1 : y + 1 - 1 = y := by omega
  have e2 : y + 2 - 1 = y + 1 := by omega
  have e3 : y + 1 + 1 = y + 2 := by omega
  have n0 := ny_0c (y := y) (by omega) hp
  have s0 := dd_d (y := y) hl (by omega)
  have n1 := ny_246 (y := (y + 1)) (by omega)
  have s1 := dd_a (y := (y + 1)) hn (by omega)
  rw [e3] at s1
  have n2 := ny_35 (y := (y + 2)) (by omega)
  exact pair_of (a := 0) (b := 385) (c := 353) (by omega) (by omega) (by omega) (by decide)
theorem p_leaf256 {y : Int} (hp : leapB (y - 1) = false) (hl : leapB y = true) (hn : leapB (y + 1) = false) (hm : leapB (y + 2) = false) (hw : dd y % 7 = 0) (h0 : 9539 ≤ fp y) (h1 : fp y < 16404) : Pair (ny y % 7) (ny (y + 1) - ny y) (ny (y + 2) - ny (y + 1)) := by
  have e1 : y + 1 - 1 = y := by omega
  have e2 : y + 2 - 1 = y + 1 := by omega
  have e3 : y + 1 + 1 = y + 2 := by omega
  have n0 := ny_0c (y := y) (by omega) hp
  have s0 := dd_d (y := y) hl (by omega)
  have n1 := ny_246 (y := (y + 1)) (by omega)
  have s1 := dd_a (y := (y + 1)) hn (by omega)
  rw [e3] at s1
  have n2 := ny_35 (y := (y + 2)) (by omega)
  exact pair_of (a := 0) (b := 385) (c := 353) (by omega) (by omega) (by omega) (by decide)
theorem p_leaf257 {y : Int} (hp : leapB (y - 1) = false) (hl : leapB y = true) (hn : leapB (y + 1) = false) (hm : leapB (y + 2) = false) (hw : dd y % 7 = 0) (h0 : 16404 ≤ fp y) (h1 : fp y < 19055) : Pair (ny y % 7) (ny (y + 1) - ny y) (ny (y + 2) - ny (y + 1)) := by
  have e1 : y + 1 - 1 = y := by omega
  have e2 : y + 2 - 1 = y + 1 := by omega
  have e3 : y + 1 + 1 = y + 2 := by omega
  have n0 := ny_0c (y := y) (by omega) hp
  have s0 := dd_d (y := y) hl (by omega)
  have n1 := ny_246 (y := (y + 1)) (by omega)
  have s1 := dd_a (y := (y + 1)) hn (by omega)
  rw [e3] at s1
  have n2 := ny_35 (y := (y + 2)) (by omega)
  exact pair_of (a := 0) (b := 385) (c := 353) (by omega) (by omega) (by omega) (by decide)
theorem p_leaf258 {y : Int} (hp : leapB (y - 1) = false) (hl : leapB y = true) (hn : leapB (y + 1) = false) (hm : leapB (y + 2) = false) (hw : dd y % 7 = 0) (h0 : 19055 ≤ fp y) (h1 : fp y < 21706) : Pair (ny y % 7) (ny (y + 1) - ny y) (ny (y + 2) - ny (y + 1)) := by
  have e1 : y + 1 - 1 = y := by omega
  have e2 : y + 2 - 1 = y + 1 := by omega
  have e3 : y + 1 + 1 = y + 2 := by omega
  have n0 := ny_0c (y := y) (by omega) hp
  have s0 := dd_d (y := y) hl (by omega)
  have n1 := ny_246 (y := (y + 1)) (by omega)
  have s1 := dd_b (y := (y + 1)) hn (by omega)
  rw [e3] at s1
  have n2 := ny_246 (y := (y + 2)) (by omega)
  exact pair_of (a := 0) (b := 385) (c := 355) (by omega) (by omega) (by omega) (by decide)
theorem p_leaf259 {y : Int} (hp : leapB (y - 1) = false) (hl : leapB y = true) (hn : leapB (y + 1) = false) (hm : leapB (y + 2) = false) (hw : dd y % 7 = 0) (h0 : 21706 ≤ fp y) (h1 : fp y < 23269) : Pair (ny y % 7) (ny (y + 1) - ny y) (ny (y + 2) - ny (y + 1)) := by
  have e1 : y + 1 - 1 = y := by omega
  have e2 : y + 2 - 1 = y + 1 := by omega
  have e3 : y + 1 + 1 = y + 2 := by omega
  have n0 := ny_0c (y := y) (by omega) hp
  have s0 := dd_d (y := y) hl (by omega)
  have n1 := ny_246 (y := (y + 1)) (by omega)
  have s1 := dd_b (y := (y + 1)) hn (by omega)
  rw [e3] at s1
  have n2 := ny_246 (y := (y + 2)) (by omega)
  exact pair_of (a := 0) (b := 385) (c := 355) (by omega) (by omega) (by omega) (by decide)
theorem p_leaf260 {y : Int} (hp : leapB (y - 1) = false) (hl : leapB y = true) (hn : leapB (y + 1) = false) (hm : leapB (y + 2) = false) (hw : dd y % 7 = 0) (h0 : 23269 ≤ fp y) (h1 : fp y < 25920) : Pair (ny y % 7) (ny (y + 1) - ny y) (ny (y + 2) - ny (y + 1)) := by
  have e1 : y + 1 - 1 = y := by omega
  have e2 : y + 2 - 1 = y + 1 := by omega
  have e3 : y + 1 + 1 = y + 2 := by omega
  have n0 := ny_0c (y := y) (by omega) hp
  have s0 := dd_d (y := y) hl (by omega)
  have n1 := ny_246 (y := (y + 1)) (by omega)
  have s1 := dd_b (y := (y + 1)) hn (by omega)
  rw [e3] at s1
  have n2 := ny_246 (y := (y + 2)) (by omega)
  exact pair_of (a := 0) (b := 385) (c := 355) (by omega) (by omega) (by omega) (by decide)
theorem p_leaf261 {y : Int} (hp : leapB (y - 1) = false) (hl : leapB y = true) (hn : leapB (y + 1) = false) (hm : leapB (y + 2) = false) (hw : dd y % 7 = 1) (h0 : 0 ≤ fp y) (h1 : fp y < 2651) : Pair (ny y % 7) (ny (y + 1) - ny y) (ny (y + 2) - ny (y + 1)) := by
  have e1 : y + 1 - 1 = y := by omega
  have e2 : y + 2 - 1 = y + 1 := by omega
  have e3 : y + 1 + 1 = y + 2 := by omega
  have n0 := ny_1c (y := y) (by omega) hl
  have s0 := dd_c (y := y) hl (by omega)
  have n1 := ny_246 (y := (y + 1)) (by omega)
  have s1 := dd_b (y := (y + 1)) hn (by omega)
  rw [e3] at s1
  have n2 := ny_246 (y := (y + 2)) (by omega)
  exact pair_of (a := 1) (b := 384) (c := 355) (by omega) (by omega) (by omega) (by decide)
theorem p_leaf262 {y : Int} (hp : leapB (y - 1) = false) (hl : leapB y = true) (hn : leapB (y + 1) = false) (hm : leapB (y + 2) = false) (hw : dd y % 7 = 1) (h0 : 2651 ≤ fp y) (h1 : fp y < 5302) : Pair (ny y % 7) (ny (y + 1) - ny y) (ny (y + 2) - ny (y + 1)) := by
  have e1 : y + 1 - 1 = y := by omega
  have e2 : y + 2 - 1 = y + 1 := by omega
  have e3 : y + 1 + 1 = y + 2 := by omega
  have n0 := ny_1c (y := y) (by omega) hl
  have s0 := dd_d (y := y) hl (by omega)
  have n1 := ny_0b (y := (y + 1)) (by omega) (by omega)
  have s1 := dd_a (y := (y + 1)) hn (by omega)
  rw [e3] at s1
  have n2 := ny_246 (y := (y + 2)) (by omega)
  exact pair_of (a := 1) (b := 384) (c := 355) (by omega) (by omega) (by omega) (by decide)
theorem p_leaf263 {y : Int} (hp : leapB (y - 1) = false) (hl : leapB y = true) (hn : leapB (y + 1) = false) (hm : leapB (y + 2) = false) (hw : dd y % 7 = 1) (h0 : 5302 ≤ fp y) (h1 : fp y < 9539) : Pair (ny y % 7) (ny (y + 1) - ny y) (ny (y + 2) - ny (y + 1)) := by
  have e1 : y + 1 - 1 = y := by omega
  have e2 : y + 2 - 1 = y + 1 := by omega
  have e3 : y + 1 + 1 = y + 2 := by omega
  have n0 := ny_1c (y := y) (by omega) hl
  have s0 := dd_d (y := y) hl (by omega)
  have n1 := ny_0b (y := (y + 1)) (by omega) (by omega)
  have s1 := dd_a (y := (y + 1)) hn (by omega)
  rw [e3] at s1
  have n2 := ny_246 (y := (y + 2)) (by omega)
  exact pair_of (a := 1) (b := 384) (c := 355) (by omega) (by omega) (by omega) (by decide)
theorem p_leaf264 {y : Int} (hp : leapB (y - 1) = false) (hl : leapB y = true) (hn : leapB (y + 1) = false) (hm : leapB (y + 2) = false) (hw : dd y % 7 = 1) (h0 : 9539 ≤ fp y) (h1 : fp y < 16404) : Pair (ny y % 7) (ny (y + 1) - ny y) (ny (y + 2) - ny (y + 1)) := by
  have e1 : y + 1 - 1 = y := by omega
  have e2 : y + 2 - 1 = y + 1 := by omega
  have e3 : y + 1 + 1 = y + 2 := by omega
  have n0 := ny_1c (y := y) (by omega) hl
  have s0 := dd_d (y := y) hl (by omega)
  have n1 := ny_0b (y := (y + 1)) (by omega) (by omega)
  have s1 := dd_a (y := (y + 1)) hn (by omega)
  rw [e3] at s1
  have n2 := ny_246 (y := (y + 2)) (by omega)
  exact pair_of (a := 1) (b := 384) (c := 355) (by omega) (by omega) (by omega) (by decide)
theorem p_leaf265 {y : Int} (hp : leapB (y - 1) = false) (hl : leapB y = true) (hn : leapB (y + 1) = false) (hm : leapB (y + 2) = false) (hw : dd y % 7 = 1) (h0 : 16404 ≤ fp y) (h1 : fp y < 19055) : Pair (ny y % 7) (ny (y + 1) - ny y) (ny (y + 2) - ny (y + 1)) := by
  have e1 : y + 1 - 1 = y := by omega
  have e2 : y + 2 - 1 = y + 1 := by omega
  have e3 : y + 1 + 1 = y + 2 := by omega
  have n0 := ny_1c (y := y) (by omega) hl
  have s0 := dd_d (y := y) hl (by omega)
  have n1 := ny_0b (y := (y + 1)) (by omega) (by omega)
  have s1 := dd_a (y := (y + 1)) hn (by omega)
  rw [e3] at s1
  have n2 := ny_246 (y := (y + 2)) (by omega)
  exact pair_of (a := 1) (b := 384) (c := 355) (by omega) (by omega) (by omega) (by decide)
theorem p_leaf266 {y : Int} (hp : leapB (y - 1) = false) (hl : leapB y = true) (hn : leapB (y + 1) = false) (hm : leapB (y + 2) = false) (hw : dd y % 7 = 1) (h0 : 19055 ≤ fp y) (h1 : fp y < 21706) : Pair (ny y % 7) (ny (y + 1) - ny y) (ny (y + 2) - ny (y + 1)) := by
  have e1 : y + 1 - 1 = y := by omega
  have e2 : y + 2 - 1 = y + 1 := by omega
  have e3 : y + 1 + 1 = y + 2 := by omega
  have n0 := ny_1c (y := y) (by omega) hl
  have s0 := dd_d (y := y) hl (by omega)
  have n1 := ny_0b (y := (y + 1)) (by omega) (by omega)
  have s1 := dd_b (y := (y + 1)) hn (by omega)
  rw [e3] at s1
  have n2 := ny_35 (y := (y + 2)) (by omega)
  exact pair_of (a := 1) (b := 384) (c := 355) (by omega) (by omega) (by omega) (by decide)
theorem p_leaf267 {y : Int} (hp : leapB (y - 1) = false) (hl : leapB y = true) (hn : leapB (y + 1) = false) (hm : leapB (y + 2) = false) (hw : dd y % 7 = 1) (h0 : 21706 ≤ fp y) (h1 : fp y < 23269) : Pair (ny y % 7) (ny (y + 1) - ny y) (ny (y + 2) - ny (y + 1)) := by
  have e1 : y + 1 - 1 = y := by omega
  have e2 : y + 2 - 1 = y + 1 := by omega
  have e3 : y + 1 + 1 = y + 2 := by omega
  have n0 := ny_1c (y := y) (by omega) hl
  have s0 := dd_d (y := y) hl (by omega)
  have n1 := ny_0b (y := (y + 1)) (by omega) (by omega)
  have s1 := dd_b (y := (y + 1)) hn (by omega)
  rw [e3] at s1
  have n2 := ny_35 (y := (y + 2)) (by omega)
  exact pair_of (a := 1) (b := 384) (c := 355) (by omega) (by omega) (by omega) (by decide)
theorem p_leaf268 {y : Int} (hp : leapB (y - 1) = false) (hl : leapB y = true) (hn : leapB (y + 1) = false) (hm : leapB (y + 2) = false) (hw : dd y % 7 = 1) (h0 : 23269 ≤ fp y) (h1 : fp y < 25920) : Pair (ny y % 7) (ny (y + 1) - ny y) (ny (y + 2) - ny (y + 1)) := by
  have e1 : y + 1 - 1 = y := by omega
  have e2 : y + 2 - 1 = y + 1 := by omega
  have e3 : y + 1 + 1 = y + 2 := by omega
  have n0 := ny_1c (y := y) (by omega) hl
  have s0 := dd_d (y := y) hl (by omega)
  have n1 := ny_0b (y := (y + 1)) (by omega) (by omega)
  have s1 := dd_b (y := (y + 1)) hn (by omega)
  rw [e3] at s1
  have n2 := ny_35 (y := (y + 2)) (by omega)
  exact pair_of (a := 1) (b := 384) (c := 355) (by omega) (by omega) (by omega) (by decide)
theorem p_leaf269 {y : Int} (hp : leapB (y - 1) = false) (hl : leapB y = true) (hn : leapB (y + 1) = false) (hm : leapB (y + 2) = false) (hw : dd y % 7 = 2) (h0 : 0 ≤ fp y) (h1 : fp y < 2651) : Pair (ny y % 7) (ny (y + 1) - ny y) (ny (y + 2) - ny (y + 1)) := by
  have e1 : y + 1 - 1 = y := by omega
  have e2 : y + 2 - 1 = y + 1 := by omega
  have e3 : y + 1 + 1 = y + 2 := by omega
  have n0 := ny_246 (y := y) (by omega)
  have s0 := dd_c (y := y) hl (by omega)
  have n1 := ny_0a (y := (y + 1)) (by omega) (by omega) (by rw [e1]; exact hl)
  have s1 := dd_b (y := (y + 1)) hn (by omega)
  rw [e3] at s1
  have n2 := ny_35 (y := (y + 2)) (by omega)
  exact pair_of (a := 3) (b := 383) (c := 354) (by omega) (by omega) (by omega) (by decide)
theorem p_leaf270 {y : Int} (hp : leapB (y - 1) = false) (hl : leapB y = true) (hn : leapB (y + 1) = false) (hm : leapB (y + 2) = false) (hw : dd y % 7 = 2) (h0 : 2651 ≤ fp y) (h1 : fp y < 5302) : Pair (ny y % 7) (ny (y + 1) - ny y) (ny (y + 2) - ny (y + 1)) := by
  have e1 : y + 1 - 1 = y := by omega
  have e2 : y + 2 - 1 = y + 1 := by omega
  have e3 : y + 1 + 1 = y + 2 := by omega
  have n0 := ny_246 (y := y) (by omega)
  have s0 := dd_d (y := y) hl (by omega)
  have n1 := ny_1b (y := (y + 1)) (by omega) (by omega)
  have s1 := dd_a (y := (y + 1)) hn (by omega)
  rw [e3] at s1
  have n2 := ny_35 (y := (y + 2)) (by omega)
  exact pair_of (a := 3) (b := 383) (c := 354) (by omega) (by omega) (by omega) (by decide)
theorem p_leaf271 {y : Int} (hp : leapB (y - 1) = false) (hl : leapB y = true) (hn : leapB (y + 1) = false) (hm : leapB (y + 2) = false) (hw : dd y % 7 = 2) (h0 : 5302 ≤ fp y) (h1 : fp y < 9539) : Pair (ny y % 7) (ny (y + 1) - ny y) (ny (y + 2) - ny (y + 1)) := by
  have e1 : y + 1 - 1 = y := by omega
  have e2 : y + 2 - 1 = y + 1 := by omega
  have e3 : y + 1 + 1 = y + 2 := by omega
  have n0 := ny_246 (y := y) (by omega)
  have s0 := dd_d (y := y) hl (by omega)
  have n1 := ny_1b (y := (y + 1)) (by omega) (by omega)
  have s1 := dd_a (y := (y + 1)) hn (by omega)
  rw [e3] at s1
  have n2 := ny_35 (y := (y + 2)) (by omega)
  exact pair_of (a := 3) (b := 383) (c := 354) (by omega) (by omega) (by omega) (by decide)
theorem p_leaf272 {y : Int} (hp : leapB (y - 1) = false) (hl : leapB y = true) (hn : leapB (y + 1) = false) (hm : leapB (y + 2) = false) (hw : dd y % 7 = 2) (h0 : 9539 ≤ fp y) (h1 : fp y < 16404) : Pair (ny y % 7) (ny (y + 1) - ny y) (ny (y + 2) - ny (y + 1)) := by
  have e1 : y + 1 - 1 = y := by omega
  have e2 : y + 2 - 1 = y + 1 := by omega
  have e3 : y + 1 + 1 = y + 2 := by omega
  have n0 := ny_246 (y := y) (by omega)
  have s0 := dd_d (y := y) hl (by omega)
  have n1 := ny_1b (y := (y + 1)) (by omega) (by omega)
  have s1 := dd_a (y := (y + 1)) hn (by omega)
  rw [e3] at s1
  have n2 := ny_35 (y := (y + 2)) (by omega)
  exact pair_of (a := 3) (b := 383) (c := 354) (by omega) (by omega) (by omega) (by decide)
theorem p_leaf273 {y : Int} (hp : leapB (y - 1) = false) (hl : leapB y = true) (hn : leapB (y + 1) = false) (hm : leapB (y + 2) = false) (hw : dd y % 7 = 2) (h0 : 16404 ≤ fp y) (h1 : fp y < 19055) : Pair (ny y % 7) (ny (y + 1) - ny y) (ny (y + 2) - ny (y + 1)) := by
  have e1 : y + 1 - 1 = y := by omega
  have e2 : y + 2 - 1 = y + 1 := by omega
  have e3 : y + 1 + 1 = y + 2 := by omega
  have n0 := ny_246 (y := y) (by omega)
  have s0 := dd_d (y := y) hl (by omega)
  have n1 := ny_1b (y := (y + 1)) (by omega) (by omega)
  have s1 := dd_a (y := (y + 1)) hn (by omega)
  rw [e3] at s1
  have n2 := ny_35 (y := (y + 2)) (by omega)
  exact pair_of (a := 3) (b := 383) (c := 354) (by omega) (by omega) (by omega) (by decide)
theorem p_leaf274 {y : Int} (hp : leapB (y - 1) = false) (hl : leapB y = true) (hn : leapB (y + 1) = false) (hm : leapB (y + 2) = false) (hw : dd y % 7 = 2) (h0 : 19055 ≤ fp y) (h1 : fp y < 21706) : Pair (ny y % 7) (ny (y + 1) - ny y) (ny (y + 2) - ny (y + 1)) := by
  have e1 : y + 1 - 1 = y := by omega
  have e2 : y + 2 - 1 = y + 1 := by omega
  have e3 : y + 1 + 1 = y + 2 := by omega
  have n0 := ny_246 (y := y) (by omega)
  have s0 := dd_d (y := y) hl (by omega)
  have n1 := ny_1a (y := (y + 1)) (by omega) (by omega) hn
  have s1 := dd_b (y := (y + 1)) hn (by omega)
  rw [e3] at s1
  have n2 := ny_246 (y := (y + 2)) (by omega)
  exact pair_of (a := 3) (b := 385) (c := 354) (by omega) (by omega) (by omega) (by decide)
theorem p_leaf275 {y : Int} (hp : leapB (y - 1) = false) (hl : leapB y = true) (hn : leapB (y + 1) = false) (hm : leapB (y + 2) = false) (hw : dd y % 7 = 2) (h0 : 21706 ≤ fp y) (h1 : fp y < 23269) : Pair (ny y % 7) (ny (y + 1) - ny y) (ny (y + 2) - ny (y + 1)) := by
  have e1 : y + 1 - 1 = y := by omega
  have e2 : y + 2 - 1 = y + 1 := by omega
  have e3 : y + 1 + 1 = y + 2 := by omega
  have n0 := ny_246 (y := y) (by omega)
  have s0 := dd_d (y := y) hl (by omega)
  have n1 := ny_1a (y := (y + 1)) (by omega) (by omega) hn
  have s1 := dd_b (y := (y + 1)) hn (by omega)
  rw [e3] at s1
  have n2 := ny_246 (y := (y + 2)) (by omega)
  exact pair_of (a := 3) (b := 385) (c := 354) (by omega) (by omega) (by omega) (by decide)
theorem p_leaf276 {y : Int} (hp : leapB (y - 1) = false) (hl : leapB y = true) (hn : leapB (y + 1) = false) (hm : leapB (y + 2) = false) (hw : dd y % 7 = 2) (h0 : 23269 ≤ fp y) (h1 : fp y < 25920) : Pair (ny y % 7) (ny (y + 1) - ny y) (ny (y + 2) - ny (y + 1)) := by
  have e1 : y + 1 - 1 = y := by omega
  have e2 : y + 2 - 1 = y + 1 := by omega
  have e3 : y + 1 + 1 = y + 2 := by omega
  have n0 := ny_246 (y := y) (by omega)
  have s0 := dd_d (y := y) hl (by omega)
  have n1 := ny_1a (y := (y + 1)) (by omega) (by omega) hn
  have s1 := dd_b (y := (y + 1)) hn (by omega)
  rw [e3] at s1
  have n2 := ny_246 (y := (y + 2)) (by omega)
  exact pair_of (a := 3) (b := 385) (c := 354) (by omega) (by omega) (by omega) (by decide)
theorem p_leaf277 {y : Int} (hp : leapB (y - 1) = false) (hl : leapB y = true) (hn : leapB (y + 1) = false) (hm : leapB (y + 2) = false) (hw : dd y % 7 = 3) (h0 : 0 ≤ fp y) (h1 : fp y < 2651) : Pair (ny y % 7) (ny (y + 1) - ny y) (ny (y + 2) - ny (y + 1)) := by
  have e1 : y + 1 - 1 = y := by omega
  have e2 : y + 2 - 1 = y + 1 := by omega
  have e3 : y + 1 + 1 = y + 2 := by omega
  have n0 := ny_35 (y := y) (by omega)
  have s0 := dd_c (y := y) hl (by omega)
  have n1 := ny_1a (y := (y + 1)) (by omega) (by omega) hn
  have s1 := dd_b (y := (y + 1)) hn (by omega)
  rw [e3] at s1
  have n2 := ny_246 (y := (y + 2)) (by omega)
  exact pair_of (a := 3) (b := 385) (c := 354) (by omega) (by omega) (by omega) (by decide)
theorem p_leaf278 {y : Int} (hp : leapB (y - 1) = false) (hl : leapB y = true) (hn : leapB (y + 1) = false) (hm : leapB (y + 2) = false) (hw : dd y % 7 = 3) (h0 : 2651 ≤ fp y) (h1 : fp y < 5302) : Pair (ny y % 7) (ny (y + 1) - ny y) (ny (y + 2) - ny (y + 1)) := by
  have e1 : y + 1 - 1 = y := by omega
  have e2 : y + 2 - 1 = y + 1 := by omega
  have e3 : y + 1 + 1 = y + 2 := by omega
  have n0 := ny_35 (y := y) (by omega)
  have s0 := dd_d (y := y) hl (by omega)
  have n1 := ny_246 (y := (y + 1)) (by omega)
  have s1 := dd_a (y := (y + 1)) hn (by omega)
  rw [e3] at s1
  have n2 := ny_246 (y := (y + 2)) (by omega)
  exact pair_of (a := 3) (b := 385) (c := 354) (by omega) (by omega) (by omega) (by decide)
theorem p_leaf279 {y : Int} (hp : leapB (y - 1) = false) (hl : leapB y = true) (hn : leapB (y + 1) = false) (hm : leapB (y + 2) = false) (hw : dd y % 7 = 3) (h0 : 5302 ≤ fp y) (h1 : fp y < 9539) : Pair (ny y % 7) (ny (y + 1) - ny y) (ny (y + 2) - ny (y + 1)) := by
  have e1 : y + 1 - 1 = y := by omega
  have e2 : y + 2 - 1 = y + 1 := by omega
  have e3 : y + 1 + 1 = y + 2 := by omega
  have n0 := ny_35 (y := y) (by omega)
  have s0 := dd_d (y := y) hl (by omega)
  have n1 := ny_246 (y := (y + 1)) (by omega)
  have s1 := dd_a (y := (y + 1)) hn (by omega)
  rw [e3] at s1
  have n2 := ny_246 (y := (y + 2)) (by omega)
  exact pair_of (a := 3) (b := 385) (c := 354) (by omega) (by omega) (by omega) (by decide)
theorem p_leaf280 {y : Int} (hp : leapB (y - 1) = false) (hl : leapB y = true) (hn : leapB (y + 1) = false) (hm : leapB (y + 2) = false) (hw : dd y % 7 = 3) (h0 : 9539 ≤ fp y) (h1 : fp y < 16404) : Pair (ny y % 7) (ny (y + 1) - ny y) (ny (y + 2) - ny (y + 1)) := by
  have e1 : y + 1 - 1 = y := by omega
  have e2 : y + 2 - 1 = y + 1 := by omega
  have e3 : y + 1 + 1 = y + 2 := by omega
  have n0 := ny_35 (y := y) (by omega)
  have s0 := dd_d (y := y) hl (by omega)
  have n1 := ny_246 (y := (y + 1)) (by omega)
  have s1 := dd_a (y := (y + 1)) hn (by omega)
  rw [e3] at s1
  have n2 := ny_246 (y := (y + 2)) (by omega)
  exact pair_of (a := 3) (b := 385) (c := 354) (by omega) (by omega) (by omega) (by decide)
theorem p_leaf281 {y : Int} (hp : leapB (y - 1) = false) (hl : leapB y = true) (hn : leapB (y + 1) = false) (hm : leapB (y + 2) = false) (hw : dd y % 7 = 3) (h0 : 16404 ≤ fp y) (h1 : fp y < 19055) : Pair (ny y % 7) (ny (y + 1) - ny y) (ny (y + 2) - ny (y + 1)) := by
  have e1 : y + 1 - 1 = y := by omega
  have e2 : y + 2 - 1 = y + 1 := by omega
  have e3 : y + 1 + 1 = y + 2 := by omega
  have n0 := ny_35 (y := y) (by omega)
  have s0 := dd_d (y := y) hl (by omega)
  have n1 := ny_246 (y := (y + 1)) (by omega)
  have s1 := dd_a (y := (y + 1)) hn (by omega)
  rw [e3] at s1
  have n2 := ny_246 (y := (y + 2)) (by omega)
  exact pair_of (a := 3) (b := 385) (c := 354) (by omega) (by omega) (by omega) (by decide)
theorem p_leaf282 {y : Int} (hp : leapB (y - 1) = false) (hl : leapB y = true) (hn : leapB (y + 1) = false) (hm : leapB (y + 2) = false) (hw : dd y % 7 = 3) (h0 : 19055 ≤ fp y) (h1 : fp y < 21706) : Pair (ny y % 7) (ny (y + 1) - ny y) (ny (y + 2) - ny (y + 1)) := by
  have e1 : y + 1 - 1 = y := by omega
  have e2 : y + 2 - 1 = y + 1 := by omega
  have e3 : y + 1 + 1 = y + 2 := by omega
  have n0 := ny_35 (y := y) (by omega)
  have s0 := dd_d (y := y) hl (by omega)
  have n1 := ny_246 (y := (y + 1)) (by omega)
  have s1 := dd_b (y := (y + 1)) hn (by omega)
  rw [e3] at s1
  have n2 := ny_0c (y := (y + 2)) (by omega) (by rw [e2]; exact hn)
  exact pair_of (a := 3) (b := 385) (c := 354) (by omega) (by omega) (by omega) (by decide)
theorem p_leaf283 {y : Int} (hp : leapB (y - 1) = false) (hl : leapB y = true) (hn : leapB (y + 1) = false) (hm : leapB (y + 2) = false) (hw : dd y % 7 = 3) (h0 : 21706 ≤ fp y) (h1 : fp y < 23269) : Pair (ny y % 7) (ny (y + 1) - ny y) (ny (y + 2) - ny (y + 1)) := by
  have e1 : y + 1 - 1 = y := by omega
  have e2 : y + 2 - 1 = y + 1 := by omega
  have e3 : y + 1 + 1 = y + 2 := by omega
  have n0 := ny_35 (y := y) (by omega)
  have s0 := dd_d (y := y) hl (by omega)
  have n1 := ny_246 (y := (y + 1)) (by omega)
  have s1 := dd_b (y := (y + 1)) hn (by omega)
  rw [e3] at s1
  have n2 := ny_0c (y := (y + 2)) (by omega) (by rw [e2]; exact hn)
  exact pair_of (a := 3) (b := 385) (c := 354) (by omega) (by omega) (by omega) (by decide)
theorem p_leaf284 {y : Int} (hp : leapB (y - 1) = false) (hl : leapB y = true) (hn : leapB (y + 1) = false) (hm : leapB (y + 2) = false) (hw : dd y % 7 = 3) (h0 : 23269 ≤ fp y) (h1 : fp y < 25920) : Pair (ny y % 7) (ny (y + 1) - ny y) (ny (y + 2) - ny (y + 1)) := by
  have e1 : y + 1 - 1 = y := by omega
  have e2 : y + 2 - 1 = y + 1 := by omega
  have e3 : y + 1 + 1 = y + 2 := by omega
  have n0 := ny_35 (y := y) (by omega)
  have s0 := dd_d (y := y) hl (by omega)
  have n1 := ny_246 (y := (y + 1)) (by omega)
  have s1 := dd_b (y := (y + 1)) hn (by omega)
  rw [e3] at s1
  have n2 := ny_0c (y := (y + 2)) (by omega) (by rw [e2]; exact hn)
  exact pair_of (a := 3) (b := 385) (c := 354) (by omega) (by omega) (by omega) (by decide)
theorem p_leaf285 {y : Int} (hp : leapB (y - 1) = false) (hl : leapB y = true) (hn : leapB (y + 1) = false) (hm : leapB (y + 2) = false) (hw : dd y % 7 = 4) (h0 : 0 ≤ fp y) (h1 : fp y < 2651) : Pair (ny y % 7) (ny (y + 1) - ny y) (ny (y + 2) - ny (y + 1)) := by
  have e1 : y + 1 - 1 = y := by omega
  have e2 : y + 2 - 1 = y + 1 := by omega
  have e3 : y + 1 + 1 = y + 2 := by omega
  have n0 := ny_246 (y := y) (by omega)
  have s0 := dd_c (y := y) hl (by omega)
  have n1 := ny_246 (y := (y + 1)) (by omega)
  have s1 := dd_b (y := (y + 1)) hn (by omega)
  rw [e3] at s1
  have n2 := ny_0c (y := (y + 2)) (by omega) (by rw [e2]; exact hn)
  exact pair_of (a := 5) (b := 383) (c := 354) (by omega) (by omega) (by omega) (by decide)
theorem p_leaf286 {y : Int} (hp : leapB (y - 1) = false) (hl : leapB y = true) (hn : leapB (y + 1) = false) (hm : leapB (y + 2) = false) (hw : dd y % 7 = 4) (h0 : 2651 ≤ fp y) (h1 : fp y < 5302) : Pair (ny y % 7) (ny (y + 1) - ny y) (ny (y + 2) - ny (y + 1)) := by
  have e1 : y + 1 - 1 = y := by omega
  have e2 : y + 2 - 1 = y + 1 := by omega
  have e3 : y + 1 + 1 = y + 2 := by omega
  have n0 := ny_246 (y := y) (by omega)
  have s0 := dd_d (y := y) hl (by omega)
  have n1 := ny_35 (y := (y + 1)) (by omega)
  have s1 := dd_a (y := (y + 1)) hn (by omega)
  rw [e3] at s1
  have n2 := ny_0c (y := (y + 2)) (by omega) (by rw [e2]; exact hn)
  exact pair_of (a := 5) (b := 383) (c := 354) (by omega) (by omega) (by omega) (by decide)
theorem p_leaf287 {y : Int} (hp : leapB (y - 1) = false) (hl : leapB y = true) (hn : leapB (y + 1) = false) (hm : leapB (y + 2) = false) (hw : dd y % 7 = 4) (h0 : 5302 ≤ fp y) (h1 : fp y < 9539) : Pair (ny y % 7) (ny (y + 1) - ny y) (ny (y + 2) - ny (y + 1)) := by
  have e1 : y + 1 - 1 = y := by omega
  have e2 : y + 2 - 1 = y + 1 := by omega
  have e3 : y + 1 + 1 = y + 2 := by omega
  have n0 := ny_246 (y := y) (by omega)
  have s0 := dd_d (y := y) hl (by omega)
  have n1 := ny_35 (y := (y + 1)) (by omega)
  have s1 := dd_a (y := (y + 1)) hn (by omega)
  rw [e3] at s1
  have n2 := ny_0c (y := (y + 2)) (by omega) (by rw [e2]; exact hn)
  exact pair_of (a := 5) (b := 383) (c := 354) (by omega) (by omega) (by omega) (by decide)
theorem p_leaf288 {y : Int} (hp : leapB (y - 1) = false) (hl : leapB y = true) (hn : leapB (y + 1) = false) (hm : leapB (y + 2) = false) (hw : dd y % 7 = 4) (h0 : 9539 ≤ fp y) (h1 : fp y < 16404) : Pair (ny y % 7) (ny (y + 1) - ny y) (ny (y + 2) - ny (y + 1)) := by
  have e1 : y + 1 - 1 = y := by omega
  have e2 : y + 2 - 1 = y + 1 := by omega
  have e3 : y + 1 + 1 = y + 2 := by omega
  have n0 := ny_246 (y := y) (by omega)
  have s0 := dd_d (y := y) hl (by omega)
  have n1 := ny_35 (y := (y + 1)) (by omega)
  have s1 := dd_a (y := (y + 1)) hn (by omega)
  rw [e3] at s1
  have n2 := ny_0c (y := (y + 2)) (by omega) (by rw [e2]; exact hn)
  exact pair_of (a := 5) (b := 383) (c := 354) (by omega) (by omega) (by omega) (by decide)
theorem p_leaf289 {y : Int} (hp : leapB (y - 1) = false) (hl : leapB y = true) (hn : leapB (y + 1) = false) (hm : leapB (y + 2) = false) (hw : dd y % 7 = 4) (h0 : 16404 ≤ fp y) (h1 : fp y < 19055) : Pair (ny y % 7) (ny (y + 1) - ny y) (ny (y + 2) - ny (y + 1)) := by
  have e1 : y + 1 - 1 = y := by omega
  have e2 : y + 2 - 1 = y + 1 := by omega
  have e3 : y + 1 + 1 = y + 2 := by omega
  have n0 := ny_246 (y := y) (by omega)
  have s0 := dd_d (y := y) hl (by omega)
  have n1 := ny_35 (y := (y + 1)) (by omega)
  have s1 := dd_a (y := (y + 1)) hn (by omega)
  rw [e3] at s1
  have n2 := ny_0c (y := (y + 2)) (by omega) (by rw [e2]; exact hn)
  exact pair_of (a := 5) (b := 383) (c := 354) (by omega) (by omega) (by omega) (by decide)
theorem p_leaf290 {y : Int} (hp : leapB (y - 1) = false) (hl : leapB y = true) (hn : leapB (y + 1) = false) (hm : leapB (y + 2) = false) (hw : dd y % 7 = 4) (h0 : 19055 ≤ fp y) (h1 : fp y < 21706) : Pair (ny y % 7) (ny (y + 1) - ny y) (ny (y + 2) - ny (y + 1)) := by
  have e1 : y + 1 - 1 = y := by omega
  have e2 : y + 2 - 1 = y + 1 := by omega
  have e3 : y + 1 + 1 = y + 2 := by omega
  have n0 := ny_246 (y := y) (by omega)
  have s0 := dd_d (y := y) hl (by omega)
  have n1 := ny_35 (y := (y + 1)) (by omega)
  have s1 := dd_b (y := (y + 1)) hn (by omega)
  rw [e3] at s1
  have n2 := ny_1b (y := (y + 2)) (by omega) (by omega)
  exact pair_of (a := 5) (b := 383) (c := 355) (by omega) (by omega) (by omega) (by decide)
theorem p_leaf291 {y : Int} (hp : leapB (y - 1) = false) (hl : leapB y = true) (hn : leapB (y + 1) = false) (hm : leapB (y + 2) = false) (hw : dd y % 7 = 4) (h0 : 21706 ≤ fp y) (h1 : fp y < 23269) : Pair (ny y % 7) (ny (y + 1) - ny y) (ny (y + 2) - ny (y + 1)) := by
  have e1 : y + 1 - 1 = y := by omega
  have e2 : y + 2 - 1 = y + 1 := by omega
  have e3 : y + 1 + 1 = y + 2 := by omega
  have n0 := ny_246 (y := y) (by omega)
  have s0 := dd_d (y := y) hl (by omega)
  have n1 := ny_35 (y := (y + 1)) (by omega)
  have s1 := dd_b (y := (y + 1)) hn (by omega)
  rw [e3] at s1
  have n2 := ny_1b (y := (y + 2)) (by omega) (by omega)
  exact pair_of (a := 5) (b := 383) (c := 355) (by omega) (by omega) (by omega) (by decide)
theorem p_leaf292 {y : Int} (hp : leapB (y - 1) = false) (hl : leapB y = true) (hn : leapB (y + 1) = false) (hm : leapB (y + 2) = false) (hw : dd y % 7 = 4) (h0 : 23269 ≤ fp y) (h1 : fp y < 25920) : Pair (ny y % 7) (ny (y + 1) - ny y) (ny (y + 2) - ny (y + 1)) := by
  have e1 : y + 1 - 1 = y := by omega
  have e2 : y + 2 - 1 = y + 1 := by omega
  have e3 : y + 1 + 1 = y + 2 := by omega
  have n0 := ny_246 (y := y) (by omega)
  have s0 := dd_d (y := y) hl (by omega)
  have n1 := ny_35 (y := (y + 1)) (by omega)
  have s1 := dd_b (y := (y + 1)) hn (by omega)
  rw [e3] at s1
  have n2 := ny_1b (y := (y + 2)) (by omega) (by omega)
  exact pair_of (a := 5) (b := 383) (c := 355) (by omega) (by omega) (by omega) (by decide)
theorem p_leaf293 {y : Int} (hp : leapB (y - 1) = false) (hl : leapB y = true) (hn : leapB (y + 1) = false) (hm : leapB (y + 2) = false) (hw : dd y % 7 = 5) (h0 : 0 ≤ fp y) (h1 : fp y < 2651) : Pair (ny y % 7) (ny (y + 1) - ny y) (ny (y + 2) - ny (y + 1)) := by
  have e1 : y + 1 - 1 = y := by omega
  have e2 : y + 2 - 1 = y + 1 := by omega
  have e3 : y + 1 + 1 = y + 2 := by omega
  have n0 := ny_35 (y := y) (by omega)
  have s0 := dd_c (y := y) hl (by omega)
  have n1 := ny_35 (y := (y + 1)) (by omega)
  have s1 := dd_b (y := (y + 1)) hn (by omega)
  rw [e3] at s1
  have n2 := ny_1b (y := (y + 2)) (by omega) (by omega)
  exact pair_of (a := 5) (b := 383) (c := 355) (by omega) (by omega) (by omega) (by decide)
theorem p_leaf294 {y : Int} (hp : leapB (y - 1) = false) (hl : leapB y = true) (hn : leapB (y + 1) = false) (hm : leapB (y + 2) = false) (hw : dd y % 7 = 5) (h0 : 2651 ≤ fp y) (h1 : fp y < 5302) : Pair (ny y % 7) (ny (y + 1) - ny y) (ny (y + 2) - ny (y + 1)) := by
  have e1 : y + 1 - 1 = y := by omega
  have e2 : y + 2 - 1 = y + 1 := by omega
  have e3 : y + 1 + 1 = y + 2 := by omega
  have n0 := ny_35 (y := y) (by omega)
  have s0 := dd_d (y := y) hl (by omega)
  have n1 := ny_246 (y := (y + 1)) (by omega)
  have s1 := dd_a (y := (y + 1)) hn (by omega)
  rw [e3] at s1
  have n2 := ny_1b (y := (y + 2)) (by omega) (by omega)
  exact pair_of (a := 5) (b := 385) (c := 353) (by omega) (by omega) (by omega) (by decide)
theorem p_leaf295 {y : Int} (hp : leapB (y - 1) = false) (hl : leapB y = true) (hn : leapB (y + 1) = false) (hm : leapB (y + 2) = false) (hw : dd y % 7 = 5) (h0 : 5302 ≤ fp y) (h1 : fp y < 9539) : Pair (ny y % 7) (ny (y + 1) - ny y) (ny (y + 2) - ny (y + 1)) := by
  have e1 : y + 1 - 1 = y := by omega
  have e2 : y + 2 - 1 = y + 1 := by omega
  have e3 : y + 1 + 1 = y + 2 := by omega
  have n0 := ny_35 (y := y) (by omega)
  have s0 := dd_d (y := y) hl (by omega)
  have n1 := ny_246 (y := (y + 1)) (by omega)
  have s1 := dd_a (y := (y + 1)) hn (by omega)
  rw [e3] at s1
  have n2 := ny_1b (y := (y + 2)) (by omega) (by omega)
  exact pair_of (a := 5) (b := 385) (c := 353) (by omega) (by omega) (by omega) (by decide)
theorem p_leaf296 {y : Int} (hp : leapB (y - 1) = false) (hl : leapB y = true) (hn : leapB (y + 1) = false) (hm : leapB (y + 2) = false) (hw : dd y % 7 = 5) (h0 : 9539 ≤ fp y) (h1 : fp y < 16404) : Pair (ny y % 7) (ny (y + 1) - ny y) (ny (y + 2) - ny (y + 1)) := by
  have e1 : y + 1 - 1 = y := by omega
  have e2 : y + 2 - 1 = y + 1 := by omega
  have e3 : y + 1 + 1 = y + 2 := by omega
  have n0 := ny_35 (y := y) (by omega)
  have s0 := dd_d (y := y) hl (by omega)
  have n1 := ny_246 (y := (y + 1)) (by omega)
  have s1 := dd_a (y := (y + 1)) hn (by omega)
  rw [e3] at s1
  have n2 := ny_1a (y := (y + 2)) (by omega) (by omega) hm
  exact pair_of (a := 5) (b := 385) (c := 355) (by omega) (by omega) (by omega) (by decide)
theorem p_leaf297 {y : Int} (hp : leapB (y - 1) = false) (hl : leapB y = true) (hn : leapB (y + 1) = false) (hm : leapB (y + 2) = false) (hw : dd y % 7 = 5) (h0 : 16404 ≤ fp y) (h1 : fp y < 19055) : Pair (ny y % 7) (ny (y + 1) - ny y) (ny (y + 2) - ny (y + 1)) := by
  have e1 : y + 1 - 1 = y := by omega
  have e2 : y + 2 - 1 = y + 1 := by omega
  have e3 : y + 1 + 1 = y + 2 := by omega
  have n0 := ny_35 (y := y) (by omega)
  have s0 := dd_d (y := y) hl (by omega)
  have n1 := ny_246 (y := (y + 1)) (by omega)
  have s1 := dd_a (y := (y + 1)) hn (by omega)
  rw [e3] at s1
  have n2 := ny_1a (y := (y + 2)) (by omega) (by omega) hm
  exact pair_of (a := 5) (b := 385) (c := 355) (by omega) (by omega) (by omega) (by decide)
theorem p_leaf298 {y : Int} (hp : leapB (y - 1) = false) (hl : leapB y = true) (hn : leapB (y + 1) = false) (hm : leapB (y + 2) = false) (hw : dd y % 7 = 5) (h0 : 19055 ≤ fp y) (h1 : fp y < 21706) : Pair (ny y % 7) (ny (y + 1) - ny y) (ny (y + 2) - ny (y + 1)) := by
  have e1 : y + 1 - 1 = y := by omega
  have e2 : y + 2 - 1 = y + 1 := by omega
  have e3 : y + 1 + 1 = y + 2 := by omega
  have n0 := ny_35 (y := y) (by omega)
  have s0 := dd_d (y := y) hl (by omega)
  have n1 := ny_246 (y := (y + 1)) (by omega)
  have s1 := dd_b (y := (y + 1)) hn (by omega)
  rw [e3] at s1
  have n2 := ny_246 (y := (y + 2)) (by omega)
  exact pair_of (a := 5) (b := 385) (c := 355) (by omega) (by omega) (by omega) (by decide)
theorem p_leaf299 {y : Int} (hp : leapB (y - 1) = false) (hl : leapB y = true) (hn : leapB (y + 1) = false) (hm : leapB (y + 2) = false) (hw : dd y % 7 = 5) (h0 : 21706 ≤ fp y) (h1 : fp y < 23269) : Pair (ny y % 7) (ny (y + 1) - ny y) (ny (y + 2) - ny (y + 1)) := by
  have e1 : y + 1 - 1 = y := by omega
  have e2 : y + 2 - 1 = y + 1 := by omega
  have e3 : y + 1 + 1 = y + 2 := by omega
  have n0 := ny_35 (y := y) (by omega)
  have s0 := dd_d (y := y) hl (by omega)
  have n1 := ny_246 (y := (y + 1)) (by omega)
  have s1 := dd_b (y := (y + 1)) hn (by omega)
  rw [e3] at s1
  have n2 := ny_246 (y := (y + 2)) (by omega)
  exact pair_of (a := 5) (b := 385) (c := 355) (by omega) (by omega) (by omega) (by decide)
theorem p_leaf300 {y : Int} (hp : leapB (y - 1) = false) (hl : leapB y = true) (hn : leapB (y + 1) = false) (hm : leapB (y + 2) = false) (hw : dd y % 7 = 5) (h0 : 23269 ≤ fp y) (h1 : fp y < 25920) : Pair (ny y % 7) (ny (y + 1) - ny y) (ny (y + 2) - ny (y + 1)) := by
  have e1 : y + 1 - 1 = y := by omega
  have e2 : y + 2 - 1 = y + 1 := by omega
  have e3 : y + 1 + 1 = y + 2 := by omega
  have n0 := ny_35 (y := y) (by omega)
  have s0 := dd_d (y := y) hl (by omega)
  have n1 := ny_246 (y := (y + 1)) (by omega)
  have s1 := dd_b (y := (y + 1)) hn (by omega)
  rw [e3] at s1
  have n2 := ny_246 (y := (y + 2)) (by omega)
  exact pair_of (a := 5) (b := 385) (c := 355) (by omega) (by omega) (by omega) (by decide)
theorem p_leaf301 {y : Int} (hp : leapB (y - 1) = false) (hl : leapB y = true) (hn : leapB (y + 1) = false) (hm : leapB (y + 2) = false) (hw : dd y % 7 = 6) (h0 : 0 ≤ fp y) (h1 : fp y < 2651) : Pair (ny y % 7) (ny (y + 1) - ny y) (ny (y + 2) - ny (y + 1)) := by
  have e1 : y + 1 - 1 = y := by omega
  have e2 : y + 2 - 1 = y + 1 := by omega
  have e3 : y + 1 + 1 = y + 2 := by omega
  have n0 := ny_246 (y := y) (by omega)
  have s0 := dd_c (y := y) hl (by omega)
  have n1 := ny_246 (y := (y + 1)) (by omega)
  have s1 := dd_b (y := (y + 1)) hn (by omega)
  rw [e3] at s1
  have n2 := ny_246 (y := (y + 2)) (by omega)
  exact pair_of (a := 0) (b := 383) (c := 355) (by omega) (by omega) (by omega) (by decide)
theorem p_leaf302 {y : Int} (hp : leapB (y - 1) = false) (hl : leapB y = true) (hn : leapB (y + 1) = false) (hm : leapB (y + 2) = false) (hw : dd y % 7 = 6) (h0 : 2651 ≤ fp y) (h1 : fp y < 5302) : Pair (ny y % 7) (ny (y + 1) - ny y) (ny (y + 2) - ny (y + 1)) := by
  have e1 : y + 1 - 1 = y := by omega
  have e2 : y + 2 - 1 = y + 1 := by omega
  have e3 : y + 1 + 1 = y + 2 := by omega
  have n0 := ny_246 (y := y) (by omega)
  have s0 := dd_d (y := y) hl (by omega)
  have n1 := ny_35 (y := (y + 1)) (by omega)
  have s1 := dd_a (y := (y + 1)) hn (by omega)
  rw [e3] at s1
  have n2 := ny_246 (y := (y + 2)) (by omega)
  exact pair_of (a := 0) (b := 383) (c := 355) (by omega) (by omega) (by omega) (by decide)
theorem p_leaf303 {y : Int} (hp : leapB (y - 1) = false) (hl : leapB y = true) (hn : leapB (y + 1) = false) (hm : leapB (y + 2) = false) (hw : dd y % 7 = 6) (h0 : 5302 ≤ fp y) (h1 : fp y < 9539) : Pair (ny y % 7) (ny (y + 1) - ny y) (ny (y + 2) - ny (y + 1)) := by
  have e1 : y + 1 - 1 = y := by omega
  have e2 : y + 2 - 1 = y + 1 := by omega
  have e3 : y + 1 + 1 = y + 2 := by omega
  have n0 := ny_246 (y := y) (by omega)
  have s0 := dd_d (y := y) hl (by omega)
  have n1 := ny_35 (y := (y + 1)) (by omega)
  have s1 := dd_a (y := (y + 1)) hn (by omega)
  rw [e3] at s1
  have n2 := ny_246 (y := (y + 2)) (by omega)
  exact pair_of (a := 0) (b := 383) (c := 355) (by omega) (by omega) (by omega) (by decide)
theorem p_leaf304 {y : Int} (hp : leapB (y - 1) = false) (hl : leapB y = true) (hn : leapB (y + 1) = false) (hm : leapB (y + 2) = false) (hw : dd y % 7 = 6) (h0 : 9539 ≤ fp y) (h1 : fp y < 16404) : Pair (ny y % 7) (ny (y + 1) - ny y) (ny (y + 2) - ny (y + 1)) := by
  have e1 : y + 1 - 1 = y := by omega
  have e2 : y + 2 - 1 = y + 1 := by omega
  have e3 : y + 1 + 1 = y + 2 := by omega
  have n0 := ny_246 (y := y) (by omega)
  have s0 := dd_d (y := y) hl (by omega)
  have n1 := ny_35 (y := (y + 1)) (by omega)
  have s1 := dd_a (y := (y + 1)) hn (by omega)
  rw [e3] at s1
  have n2 := ny_246 (y := (y + 2)) (by omega)
  exact pair_of (a := 0) (b := 383) (c := 355) (by omega) (by omega) (by omega) (by decide)
theorem p_leaf305 {y : Int} (hp : leapB (y - 1) = false) (hl : leapB y = true) (hn : leapB (y + 1) = false) (hm : leapB (y + 2) = false) (hw : dd y % 7 = 6) (h0 : 16404 ≤ fp y) (h1 : fp y < 19055) : Pair (ny y % 7) (ny (y + 1) - ny y) (ny (y + 2) - ny (y + 1)) := by
  have e1 : y + 1 - 1 = y := by omega
  have e2 : y + 2 - 1 = y + 1 := by omega
  have e3 : y + 1 + 1 = y + 2 := by omega
  have n0 := ny_246 (y := y) (by omega)
  have s0 := dd_d (y := y) hl (by omega)
  have n1 := ny_35 (y := (y + 1)) (by omega)
  have s1 := dd_a (y := (y + 1)) hn (by omega)
  rw [e3] at s1
  have n2 := ny_246 (y := (y + 2)) (by omega)
  exact pair_of (a := 0) (b := 383) (c := 355) (by omega) (by omega) (by omega) (by decide)
theorem p_leaf306 {y : Int} (hp : leapB (y - 1) = false) (hl : leapB y = true) (hn : leapB (y + 1) = false) (hm : leapB (y + 2) = false) (hw : dd y % 7 = 6) (h0 : 19055 ≤ fp y) (h1 : fp y < 21706) : Pair (ny y % 7) (ny (y + 1) - ny y) (ny (y + 2) - ny (y + 1)) := by
  have e1 : y + 1 - 1 = y := by omega
  have e2 : y + 2 - 1 = y + 1 := by omega
  have e3 : y + 1 + 1 = y + 2 := by omega
  have n0 := ny_246 (y := y) (by omega)
  have s0 := dd_d (y := y) hl (by omega)
  have n1 := ny_35 (y := (y + 1)) (by omega)
  have s1 := dd_b (y := (y + 1)) hn (by omega)
  rw [e3] at s1
  have n2 := ny_35 (y := (y + 2)) (by omega)
  exact pair_of (a := 0) (b := 383) (c := 355) (by omega) (by omega) (by omega) (by decide)
theorem p_leaf307 {y : Int} (hp : leapB (y - 1) = false) (hl : leapB y = true) (hn : leapB (y + 1) = false) (hm : leapB (y + 2) = false) (hw : dd y % 7 = 6) (h0 : 21706 ≤ fp y) (h1 : fp y < 23269) : Pair (ny y % 7) (ny (y + 1) - ny y) (ny (y + 2) - ny (y + 1)) := by
  have e1 : y + 1 - 1 = y := by omega
  have e2 : y + 2 - 1 = y + 1 := by omega
  have e3 : y + 1 + 1 = y + 2 := by omega
  have n0 := ny_246 (y := y) (by omega)
  have s0 := dd_d (y := y) hl (by omega)
  have n1 := ny_35 (y := (y + 1)) (by omega)
  have s1 := dd_b (y := (y + 1)) hn (by omega)
  rw [e3] at s1
  have n2 := ny_35 (y := (y + 2)) (by omega)
  exact pair_of (a := 0) (b := 383) (c := 355) (by omega) (by omega) (by omega) (by decide)
theorem p_leaf308 {y : Int} (hp : leapB (y - 1) = false) (hl : leapB y = true) (hn : leapB (y + 1) = false) (hm : leapB (y + 2) = false) (hw : dd y % 7 = 6) (h0 : 23269 ≤ fp y) (h1 : fp y < 25920) : Pair (ny y % 7) (ny (y + 1) - ny y) (ny (y + 2) - ny (y + 1)) := by
  have e1 : y + 1 - 1 = y := by omega
  have e2 : y + 2 - 1 = y + 1 := by omega
  have e3 : y + 1 + 1 = y + 2 := by omega
  have n0 := ny_246 (y := y) (by omega)
  have s0 := dd_d (y := y) hl (by omega)
  have n1 := ny_35 (y := (y + 1)) (by omega)
  have s1 := dd_b (y := (y + 1)) hn (by omega)
  rw [e3] at s1
  have n2 := ny_35 (y := (y + 2)) (by omega)
  exact pair_of (a := 0) (b := 383) (c := 355) (by omega) (by omega) (by omega) (by decide)
theorem p_ftff {y : Int} (hp : leapB (y - 1) = false) (hl : leapB y = true) (hn : leapB (y + 1) = false) (hm : leapB (y + 2) = false) : Pair (ny y % 7) (ny (y + 1) - ny y) (ny (y + 2) - ny (y + 1)) := by
  have b0 := fp_bd y
  have hw : dd y % 7 = 0 ∨ dd y % 7 = 1 ∨ dd y % 7 = 2 ∨ dd y % 7 = 3 ∨ dd y % 7 = 4 ∨ dd y % 7 = 5 ∨ dd y % 7 = 6 := by omega
  have hi : (0 ≤ fp y ∧ fp y < 2651) ∨ (2651 ≤ fp y ∧ fp y < 5302) ∨ (5302 ≤ fp y ∧ fp y < 9539) ∨ (9539 ≤ fp y ∧ fp y < 16404) ∨ (16404 ≤ fp y ∧ fp y < 19055) ∨ (19055 ≤ fp y ∧ fp y < 21706) ∨ (21706 ≤ fp y ∧ fp y < 23269) ∨ (23269 ≤ fp y ∧ fp y < 25920) := by omega
  rcases hw with hw | hw | hw | hw | hw | hw | hw <;> rcases hi with hi | hi | hi | hi | hi | hi | hi | hi
  · exact p_leaf253 hp hl hn hm hw hi.1 hi.2
  · exact p_leaf254 hp hl hn hm hw hi.1 hi.2
  · exact p_leaf255 hp hl hn hm hw hi.1 hi.2
  · exact p_leaf256 hp hl hn hm hw hi.1 hi.2
  · exact p_leaf257 hp hl hn hm hw hi.1 hi.2
  · exact p_leaf258 hp hl hn hm hw hi.1 hi.2
  · exact p_leaf259 hp hl hn hm hw hi.1 hi.2
  · exact p_leaf260 hp hl hn hm hw hi.1 hi.2
  · exact p_leaf261 hp hl hn hm hw hi.1 hi.2
  · exact p_leaf262 hp hl hn hm hw hi.1 hi.2
  · exact p_leaf263 hp hl hn hm hw hi.1 hi.2
  · exact p_leaf264 hp hl hn hm hw hi.1 hi.2
  · exact p_leaf265 hp hl hn hm hw hi.1 hi.2
  · exact p_leaf266 hp hl hn hm hw hi.1 hi.2
  · exact p_leaf267 hp hl hn hm hw hi.1 hi.2
  · exact p_leaf268 hp hl hn hm hw hi.1 hi.2
  · exact p_leaf269 hp hl hn hm hw hi.1 hi.2
  · exact p_leaf270 hp hl hn hm hw hi.1 hi.2
  · exact p_leaf271 hp hl hn hm hw hi.1 hi.2
  · exact p_leaf272 hp hl hn hm hw hi.1 hi.2
  · exact p_leaf273 hp hl hn hm hw hi.1 hi.2
  · exact p_leaf274 hp hl hn hm hw hi.1 hi.2
  · exact p_leaf275 hp hl hn hm hw hi.1 hi.2
  · exact p_leaf276 hp hl hn hm hw hi.1 hi.2
  · exact p_leaf277 hp hl hn hm hw hi.1 hi.2
  · exact p_leaf278 hp hl hn hm hw hi.1 hi.2
  · exact p_leaf279 hp hl hn hm hw hi.1 hi.2
  · exact p_leaf280 hp hl hn hm hw hi.1 hi.2
  · exact p_leaf281 hp hl hn hm hw hi.1 hi.2
  · exact p_leaf282 hp hl hn hm hw hi.1 hi.2
  · exact p_leaf283 hp hl hn hm hw hi.1 hi.2
  · exact p_leaf284 hp hl hn hm hw hi.1 hi.2
  · exact p_leaf285 hp hl hn hm hw hi.1 hi.2
  · exact p_leaf286 hp hl hn hm hw hi.1 hi.2
  · exact p_leaf287 hp hl hn hm hw hi.1 hi.2
  · exact p_leaf288 hp hl hn hm hw hi.1 hi.2
  · exact p_leaf289 hp hl hn hm hw hi.1 hi.2
  · exact p_leaf290 hp hl hn hm hw hi.1 hi.2
  · exact p_leaf291 hp hl hn hm hw hi.1 hi.2
  · exact p_leaf292 hp hl hn hm hw hi.1 hi.2
  · exact p_leaf293 hp hl hn hm hw hi.1 hi.2
  · exact p_leaf294 hp hl hn hm hw hi.1 hi.2
  · exact p_leaf295 hp hl hn hm hw hi.1 hi.2
  · exact p_leaf296 hp hl hn hm hw hi.1 hi.2
  · exact p_leaf297 hp hl hn hm hw hi.1 hi.2
  · exact p_leaf298 hp hl hn hm hw hi.1 hi.2
  · exact p_leaf299 hp hl hn hm hw hi.1 hi.2
  · exact p_leaf300 hp hl hn hm hw hi.1 hi.2
  · exact p_leaf301 hp hl hn hm hw hi.1 hi.2
  · exact p_leaf302 hp hl hn hm hw hi.1 hi.2
  · exact p_leaf303 hp hl hn hm hw hi.1 hi.2
  · exact p_leaf304 hp hl hn hm hw hi.1 hi.2
  · exact p_leaf305 hp hl hn hm hw hi.1 hi.2
  · exact p_leaf306 hp hl hn hm hw hi.1 hi.2
  · exact p_leaf307 hp hl hn hm hw hi.1 hi.2
  · exact p_leaf308 hp hl hn hm hw hi.1 hi.2
theorem p_leaf309 {y : Int} (hp : leapB (y - 1) = false) (hl : leapB y = true) (hn : leapB (y + 1) = false) (hm : leapB (y + 2) = true) (hw : dd y % 7 = 0) (h0 : 0 ≤ fp y) (h1 : fp y < 2651) : Pair (ny y % 7) (ny (y + 1) - ny y) (ny (y + 2) - ny (y + 1)) := by
  have e1 : y + 1 - 1 = y := by omega
  have e2 : y + 2 - 1 = y + 1 := by omega
  have e3 : y + 1 + 1 = y + 2 := by omega
  have n0 := ny_0c (y := y) (by omega) hp
  have s0 := dd_c (y := y) hl (by omega)
  have n1 := ny_35 (y := (y + 1)) (by omega)
  have s1 := dd_b (y := (y + 1)) hn (by omega)
  rw [e3] at s1
  have n2 := ny_35 (y := (y + 2)) (by omega)
  exact pair_of (a := 0) (b := 383) (c := 355) (by omega) (by omega) (by omega) (by decide)
theorem p_leaf310 {y : Int} (hp : leapB (y - 1) = false) (hl : leapB y = true) (hn : leapB (y + 1) = false) (hm : leapB (y + 2) = true) (hw : dd y % 7 = 0) (h0 : 2651 ≤ fp y) (h1 : fp y < 5302) : Pair (ny y % 7) (ny (y + 1) - ny y) (ny (y + 2) - ny (y + 1)) := by
  have e1 : y + 1 - 1 = y := by omega
  have e2 : y + 2 - 1 = y + 1 := by omega
  have e3 : y + 1 + 1 = y + 2 := by omega
  have n0 := ny_0c (y := y) (by omega) hp
  have s0 := dd_d (y := y) hl (by omega)
  have n1 := ny_246 (y := (y + 1)) (by omega)
  have s1 := dd_a (y := (y + 1)) hn (by omega)
  rw [e3] at s1
  have n2 := ny_35 (y := (y + 2)) (by omega)
  exact pair_of (a := 0) (b := 385) (c := 353) (by omega) (by omega) (by omega) (by decide)
theorem p_leaf311 {y : Int} (hp : leapB (y - 1) = false) (hl : leapB y = true) (hn : leapB (y + 1) = false) (hm : leapB (y + 2) = true) (hw : dd y % 7 = 0) (h0 : 5302 ≤ fp y) (h1 : fp y < 9539) : Pair (ny y % 7) (ny (y + 1) - ny y) (ny (y + 2) - ny (y + 1)) := by
  have e1 : y + 1 - 1 = y := by omega
  have e2 : y + 2 - 1 = y + 1 := by omega
  have e3 : y + 1 + 1 = y + 2 := by omega
  have n0 := ny_0c (y := y) (by omega) hp
  have s0 := dd_d (y := y) hl (by omega)
  have n1 := ny_246 (y := (y + 1)) (by omega)
  have s1 := dd_a (y := (y + 1)) hn (by omega)
  rw [e3] at s1
  have n2 := ny_35 (y := (y + 2)) (by omega)
  exact pair_of (a := 0) (b := 385) (c := 353) (by omega) (by omega) (by omega) (by decide)
theorem p_leaf312 {y : Int} (hp : leapB (y - 1) = false) (hl : leapB y = true) (hn : leapB (y + 1) = false) (hm : leapB (y + 2) = true) (hw : dd y % 7 = 0) (h0 : 9539 ≤ fp y) (h1 : fp y < 16404) : Pair (ny y % 7) (ny (y + 1) - ny y) (ny (y + 2) - ny (y + 1)) := by
  have e1 : y + 1 - 1 = y := by omega
  have e2 : y + 2 - 1 = y + 1 := by omega
  have e3 : y + 1 + 1 = y + 2 := by omega
  have n0 := ny_0c (y := y) (by omega) hp
  have s0 := dd_d (y := y) hl (by omega)
  have n1 := ny_246 (y := (y + 1)) (by omega)
  have s1 := dd_a (y := (y + 1)) hn (by omega)
  rw [e3] at s1
  have n2 := ny_35 (y := (y + 2)) (by omega)
  exact pair_of (a := 0) (b := 385) (c := 353) (by omega) (by omega) (by omega) (by decide)
theorem p_leaf313 {y : Int} (hp : leapB (y - 1) = false) (hl : leapB y = true) (hn : leapB (y + 1) = false) (hm : leapB (y + 2) = true) (hw : dd y % 7 = 0) (h0 : 16404 ≤ fp y) (h1 : fp y < 19055) : Pair (ny y % 7) (ny (y + 1) - ny y) (ny (y + 2) - ny (y + 1)) := by
  have e1 : y + 1 - 1 = y := by omega
  have e2 : y + 2 - 1 = y + 1 := by omega
  have e3 : y + 1 + 1 = y + 2 := by omega
  have n0 := ny_0c (y := y) (by omega) hp
  have s0 := dd_d (y := y) hl (by omega)
  have n1 := ny_246 (y := (y + 1)) (by omega)
  have s1 := dd_a (y := (y + 1)) hn (by omega)
  rw [e3] at s1
  have n2 := ny_35 (y := (y + 2)) (by omega)
  exact pair_of (a := 0) (b := 385) (c := 353) (by omega) (by omega) (by omega) (by decide)
theorem p_leaf314 {y : Int} (hp : leapB (y - 1) = false) (hl : leapB y = true) (hn : leapB (y + 1) = false) (hm : leapB (y + 2) = true) (hw : dd y % 7 = 0) (h0 : 19055 ≤ fp y) (h1 : fp y < 21706) : Pair (ny y % 7) (ny (y + 1) - ny y) (ny (y + 2) - ny (y + 1)) := by
  have e1 : y + 1 - 1 = y := by omega
  have e2 : y + 2 - 1 = y + 1 := by omega
  have e3 : y + 1 + 1 = y + 2 := by omega
  have n0 := ny_0c (y := y) (by omega) hp
  have s0 := dd_d (y := y) hl (by omega)
  have n1 := ny_246 (y := (y + 1)) (by omega)
  have s1 := dd_b (y := (y + 1)) hn (by omega)
  rw [e3] at s1
  have n2 := ny_246 (y := (y + 2)) (by omega)
  exact pair_of (a := 0) (b := 385) (c := 355) (by omega) (by omega) (by omega) (by decide)
theorem p_leaf315 {y : Int} (hp : leapB (y - 1) = false) (hl : leapB y = true) (hn : leapB (y + 1) = false) (hm : leapB (y + 2) = true) (hw : dd y % 7 = 0) (h0 : 21706 ≤ fp y) (h1 : fp y < 23269) : Pair (ny y % 7) (ny (y + 1) - ny y) (ny (y + 2) - ny (y + 1)) := by
  have e1 : y + 1 - 1 = y := by omega
  have e2 : y + 2 - 1 = y + 1 := by omega
  have e3 : y + 1 + 1 = y + 2 := by omega
  have n0 := ny_0c (y := y) (by omega) hp
  have s0 := dd_d (y := y) hl (by omega)
  have n1 := ny_246 (y := (y + 1)) (by omega)
  have s1 := dd_b (y := (y + 1)) hn (by omega)
  rw [e3] at s1
  have n2 := ny_246 (y := (y + 2)) (by omega)
  exact pair_of (a := 0) (b := 385) (c := 355) (by omega) (by omega) (by omega) (by decide)
theorem p_leaf316 {y : Int} (hp : leapB (y - 1) = false) (hl : leapB y = true) (hn : leapB (y + 1) = false) (hm : leapB (y + 2) = true) (hw : dd y % 7 = 0) (h0 : 23269 ≤ fp y) (h1 : fp y < 25920) : Pair (ny y % 7) (ny (y + 1) - ny y) (ny (y + 2) - ny (y + 1)) := by
  have e1 : y + 1 - 1 = y := by omega
  have e2 : y + 2 - 1 = y + 1 := by omega
  have e3 : y + 1 + 1 = y + 2 := by omega
  have n0 := ny_0c (y := y) (by omega) hp
  have s0 := dd_d (y := y) hl (by omega)
  have n1 := ny_246 (y := (y + 1)) (by omega)
  have s1 := dd_b (y := (y + 1)) hn (by omega)
  rw [e3] at s1
  have n2 := ny_246 (y := (y + 2)) (by omega)
  exact pair_of (a := 0) (b := 385) (c := 355) (by omega) (by omega) (by omega) (by decide)
theorem p_leaf317 {y : Int} (hp : leapB (y - 1) = false) (hl : leapB y = true) (hn : leapB (y + 1) = false) (hm : leapB (y + 2) = true) (hw : dd y % 7 = 1) (h0 : 0 ≤ fp y) (h1 : fp y < 2651) : Pair (ny y % 7) (ny (y + 1) - ny y) (ny (y + 2) - ny (y + 1)) := by
  have e1 : y + 1 - 1 = y := by omega
  have e2 : y + 2 - 1 = y + 1 := by omega
  have e3 : y + 1 + 1 = y + 2 := by omega
  have n0 := ny_1c (y := y) (by omega) hl
  have s0 := dd_c (y := y) hl (by omega)
  have n1 := ny_246 (y := (y + 1)) (by omega)
  have s1 := dd_b (y := (y + 1)) hn (by omega)
  rw [e3] at s1
  have n2 := ny_246 (y := (y + 2)) (by omega)
  exact pair_of (a := 1) (b := 384) (c := 355) (by omega) (by omega) (by omega) (by decide)
theorem p_leaf318 {y : Int} (hp : leapB (y - 1) = false) (hl : leapB y = true) (hn : leapB (y + 1) = false) (hm : leapB (y + 2) = true) (hw : dd y % 7 = 1) (h0 : 2651 ≤ fp y) (h1 : fp y < 5302) : Pair (ny y % 7) (ny (y + 1) - ny y) (ny (y + 2) - ny (y + 1)) := by
  have e1 : y + 1 - 1 = y := by omega
  have e2 : y + 2 - 1 = y + 1 := by omega
  have e3 : y + 1 + 1 = y + 2 := by omega
  have n0 := ny_1c (y := y) (by omega) hl
  have s0 := dd_d (y := y) hl (by omega)
  have n1 := ny_0b (y := (y + 1)) (by omega) (by omega)
  have s1 := dd_a (y := (y + 1)) hn (by omega)
  rw [e3] at s1
  have n2 := ny_246 (y := (y + 2)) (by omega)
  exact pair_of (a := 1) (b := 384) (c := 355) (by omega) (by omega) (by omega) (by decide)
theorem p_leaf319 {y : Int} (hp : leapB (y - 1) = false) (hl : leapB y = true) (hn : leapB (y + 1) = false) (hm : leapB (y + 2) = true) (hw : dd y % 7 = 1) (h0 : 5302 ≤ fp y) (h1 : fp y < 9539) : Pair (ny y % 7) (ny (y + 1) - ny y) (ny (y + 2) - ny (y + 1)) := by
  have e1 : y + 1 - 1 = y := by omega
  have e2 : y + 2 - 1 = y + 1 := by omega
  have e3 : y + 1 + 1 = y + 2 := by omega
  have n0 := ny_1c (y := y) (by omega) hl
  have s0 := dd_d (y := y) hl (by omega)
  have n1 := ny_0b (y := (y + 1)) (by omega) (by omega)
  have s1 := dd_a (y := (y + 1)) hn (by omega)
  rw [e3] at s1
  have n2 := ny_246 (y := (y + 2)) (by omega)
  exact pair_of (a := 1) (b := 384) (c := 355) (by omega) (by omega) (by omega) (by decide)
theorem p_leaf320 {y : Int} (hp : leapB (y - 1) = false) (hl : leapB y = true) (hn : leapB (y + 1) = false) (hm : leapB (y + 2) = true) (hw : dd y % 7 = 1) (h0 : 9539 ≤ fp y) (h1 : fp y < 16404) : Pair (ny y % 7) (ny (y + 1) - ny y) (ny (y + 2) - ny (y + 1)) := by
  have e1 : y + 1 - 1 = y := by omega
  have e2 : y + 2 - 1 = y + 1 := by omega
  have e3 : y + 1 + 1 = y + 2 := by omega
  have n0 := ny_1c (y := y) (by omega) hl
  have s0 := dd_d (y := y) hl (by omega)
  have n1 := ny_0b (y := (y + 1)) (by omega) (by omega)
  have s1 := dd_a (y := (y + 1)) hn (by omega)
  rw [e3] at s1
  have n2 := ny_246 (y := (y + 2)) (by omega)
  exact pair_of (a := 1) (b := 384) (c := 355) (by omega) (by omega) (by omega) (by decide)
theorem p_leaf321 {y : Int} (hp : leapB (y - 1) = false) (hl : leapB y = true) (hn : leapB (y + 1) = false) (hm : leapB (y + 2) = true) (hw : dd y % 7 = 1) (h0 : 16404 ≤ fp y) (h1 : fp y < 19055) : Pair (ny y % 7) (ny (y + 1) - ny y) (ny (y + 2) - ny (y + 1)) := by
  have e1 : y + 1 - 1 = y := by omega
  have e2 : y + 2 - 1 = y + 1 := by omega
  have e3 : y + 1 + 1 = y + 2 := by omega
  have n0 := ny_1c (y := y) (by omega) hl
  have s0 := dd_d (y := y) hl (by omega)
  have n1 := ny_0b (y := (y + 1)) (by omega) (by omega)
  have s1 := dd_a (y := (y + 1)) hn (by omega)
  rw [e3] at s1
  have n2 := ny_246 (y := (y + 2)) (by omega)
  exact pair_of (a := 1) (b := 384) (c := 355) (by omega) (by omega) (by omega) (by decide)
theorem p_leaf322 {y : Int} (hp : leapB (y - 1) = false) (hl : leapB y = true) (hn : leapB (y + 1) = false) (hm : leapB (y + 2) = true) (hw : dd y % 7 = 1) (h0 : 19055 ≤ fp y) (h1 : fp y < 21706) : Pair (ny y % 7) (ny (y + 1) - ny y) (ny (y + 2) - ny (y + 1)) := by
  have e1 : y + 1 - 1 = y := by omega
  have e2 : y + 2 - 1 = y + 1 := by omega
  have e3 : y + 1 + 1 = y + 2 := by omega
  have n0 := ny_1c (y := y) (by omega) hl
  have s0 := dd_d (y := y) hl (by omega)
  have n1 := ny_0b (y := (y + 1)) (by omega) (by omega)
  have s1 := dd_b (y := (y + 1)) hn (by omega)
  rw [e3] at s1
  have n2 := ny_35 (y := (y + 2)) (by omega)
  exact pair_of (a := 1) (b := 384) (c := 355) (by omega) (by omega) (by omega) (by decide)
theorem p_leaf323 {y : Int} (hp : leapB (y - 1) = false) (hl : leapB y = true) (hn : leapB (y + 1) = false) (hm : leapB (y + 2) = true) (hw : dd y % 7 = 1) (h0 : 21706 ≤ fp y) (h1 : fp y < 23269) : Pair (ny y % 7) (ny (y + 1) - ny y) (ny (y + 2) - ny (y + 1)) := by
  have e1 : y + 1 - 1 = y := by omega
  have e2 : y + 2 - 1 = y + 1 := by omega
  have e3 : y + 1 + 1 = y + 2 := by omega
  have n0 := ny_1c (y := y) (by omega) hl
  have s0 := dd_d (y := y) hl (by omega)
  have n1 := ny_0b (y := (y + 1)) (by omega) (by omega)
  have s1 := dd_b (y := (y + 1)) hn (by omega)
  rw [e3] at s1
  have n2 := ny_35 (y := (y + 2)) (by omega)
  exact pair_of (a := 1) (b := 384) (c := 355) (by omega) (by omega) (by omega) (by decide)
theorem p_leaf324 {y : Int} (hp : leapB (y - 1) = false) (hl : leapB y = true) (hn : leapB (y + 1) = false) (hm : leapB (y + 2) = true) (hw : dd y % 7 = 1) (h0 : 23269 ≤ fp y) (h1 : fp y < 25920) : Pair (ny y % 7) (ny (y + 1) - ny y) (ny (y + 2) - ny (y + 1)) := by
  have e1 : y + 1 - 1 = y := by omega
  have e2 : y + 2 - 1 = y + 1 := by omega
  have e3 : y + 1 + 1 = y + 2 := by omega
  have n0 := ny_1c (y := y) (by omega) hl
  have s0 := dd_d (y := y) hl (by omega)
  have n1 := ny_0b (y := (y + 1)) (by omega) (by omega)
  have s1 := dd_b (y := (y + 1)) hn (by omega)
  rw [e3] at s1
  have n2 := ny_35 (y := (y + 2)) (by omega)
  exact pair_of (a := 1) (b := 384) (c := 355) (by omega) (by omega) (by omega) (by decide)
theorem p_leaf325 {y : Int} (hp : leapB (y - 1) = false) (hl : leapB y = true) (hn : leapB (y + 1) = false) (hm : leapB (y + 2) = true) (hw : dd y % 7 = 2) (h0 : 0 ≤ fp y) (h1 : fp y < 2651) : Pair (ny y % 7) (ny (y + 1) - ny y) (ny (y + 2) - ny (y + 1)) := by
  have e1 : y + 1 - 1 = y := by omega
  have e2 : y + 2 - 1 = y + 1 := by omega
  have e3 : y + 1 + 1 = y + 2 := by omega
  have n0 := ny_246 (y := y) (by omega)
  have s0 := dd_c (y := y) hl (by omega)
  have n1 := ny_0a (y := (y + 1)) (by omega) (by omega) (by rw [e1]; exact hl)
  have s1 := dd_b (y := (y + 1)) hn (by omega)
  rw [e3] at s1
  have n2 := ny_35 (y := (y + 2)) (by omega)
  exact pair_of (a := 3) (b := 383) (c := 354) (by omega) (by omega) (by omega) (by decide)
theorem p_leaf326 {y : Int} (hp : leapB (y - 1) = false) (hl : leapB y = true) (hn : leapB (y + 1) = false) (hm : leapB (y + 2) = true) (hw : dd y % 7 = 2) (h0 : 2651 ≤ fp y) (h1 : fp y < 5302) : Pair (ny y % 7) (ny (y + 1) - ny y) (ny (y + 2) - ny (y + 1)) := by
  have e1 : y + 1 - 1 = y := by omega
  have e2 : y + 2 - 1 = y + 1 := by omega
  have e3 : y + 1 + 1 = y + 2 := by omega
  have n0 := ny_246 (y := y) (by omega)
  have s0 := dd_d (y := y) hl (by omega)
  have n1 := ny_1b (y := (y + 1)) (by omega) (by omega)
  have s1 := dd_a (y := (y + 1)) hn (by omega)
  rw [e3] at s1
  have n2 := ny_35 (y := (y + 2)) (by omega)
  exact pair_of (a := 3) (b := 383) (c := 354) (by omega) (by omega) (by omega) (by decide)
theorem p_leaf327 {y : Int} (hp : leapB (y - 1) = false) (hl : leapB y = true) (hn : leapB (y + 1) = false) (hm : leapB (y + 2) = true) (hw : dd y % 7 = 2) (h0 : 5302 ≤ fp y) (h1 : fp y < 9539) : Pair (ny y % 7) (ny (y + 1) - ny y) (ny (y + 2) - ny (y + 1)) := by
  have e1 : y + 1 - 1 = y := by omega
  have e2 : y + 2 - 1 = y + 1 := by omega
  have e3 : y + 1 + 1 = y + 2 := by omega
  have n0 := ny_246 (y := y) (by omega)
  have s0 := dd_d (y := y) hl (by omega)
  have n1 := ny_1b (y := (y + 1)) (by omega) (by omega)
  have s1 := dd_a (y := (y + 1)) hn (by omega)
  rw [e3] at s1
  have n2 := ny_35 (y := (y + 2)) (by omega)
  exact pair_of (a := 3) (b := 383) (c := 354) (by omega) (by omega) (by omega) (by decide)
theorem p_leaf328 {y : Int} (hp : leapB (y - 1) = false) (hl : leapB y = true) (hn : leapB (y + 1) = false) (hm : leapB (y + 2) = true) (hw : dd y % 7 = 2) (h0 : 9539 ≤ fp y) (h1 : fp y < 16404) : Pair (ny y % 7) (ny (y + 1) - ny y) (ny (y + 2) - ny (y + 1)) := by
  have e1 : y + 1 - 1 = y := by omega
  have e2 : y + 2 - 1 = y + 1 := by omega
  have e3 : y + 1 + 1 = y + 2 := by omega
  have n0 := ny_246 (y := y) (by omega)
  have s0 := dd_d (y := y) hl (by omega)
  have n1 := ny_1b (y := (y + 1)) (by omega) (by omega)
  have s1 := dd_a (y := (y + 1)) hn (by omega)
  rw [e3] at s1
  have n2 := ny_35 (y := (y + 2)) (by omega)
  exact pair_of (a := 3) (b := 383) (c := 354) (by omega) (by omega) (by omega) (by decide)
theorem p_leaf329 {y : Int} (hp : leapB (y - 1) = false) (hl : leapB y = true) (hn : leapB (y + 1) = false) (hm : leapB (y + 2) = true) (hw : dd y % 7 = 2) (h0 : 16404 ≤ fp y) (h1 : fp y < 19055) : Pair (ny y % 7) (ny (y + 1) - ny y) (ny (y + 2) - ny (y + 1)) := by
  have e1 : y + 1 - 1 = y := by omega
  have e2 : y + 2 - 1 = y + 1 := by omega
  have e3 : y + 1 + 1 = y + 2 := by omega
  have n0 := ny_246 (y := y) (by omega)
  have s0 := dd_d (y := y) hl (by omega)
  have n1 := ny_1b (y := (y + 1)) (by omega) (by omega)
  have s1 := dd_a (y := (y + 1)) hn (by omega)
  rw [e3] at s1
  have n2 := ny_35 (y := (y + 2)) (by omega)
  exact pair_of (a := 3) (b := 383) (c := 354) (by omega) (by omega) (by omega) (by decide)
theorem p_leaf330 {y : Int} (hp : leapB (y - 1) = false) (hl : leapB y = true) (hn : leapB (y + 1) = false) (hm : leapB (y + 2) = true) (hw : dd y % 7 = 2) (h0 : 19055 ≤ fp y) (h1 : fp y < 21706) : Pair (ny y % 7) (ny (y + 1) - ny y) (ny (y + 2) - ny (y + 1)) := by
  have e1 : y + 1 - 1 = y := by omega
  have e2 : y + 2 - 1 = y + 1 := by omega
  have e3 : y + 1 + 1 = y + 2 := by omega
  have n0 := ny_246 (y := y) (by omega)
  have s0 := dd_d (y := y) hl (by omega)
  have n1 := ny_1a (y := (y + 1)) (by omega) (by omega) hn
  have s1 := dd_b (y := (y + 1)) hn (by omega)
  rw [e3] at s1
  have n2 := ny_246 (y := (y + 2)) (by omega)
  exact pair_of (a := 3) (b := 385) (c := 354) (by omega) (by omega) (by omega) (by decide)
theorem p_leaf331 {y : Int} (hp : leapB (y - 1) = false) (hl : leapB y = true) (hn : leapB (y + 1) = false) (hm : leapB (y + 2) = true) (hw : dd y % 7 = 2) (h0 : 21706 ≤ fp y) (h1 : fp y < 23269) : Pair (ny y % 7) (ny (y + 1) - ny y) (ny (y + 2) - ny (y + 1)) := by
  have e1 : y + 1 - 1 = y := by omega
  have e2 : y + 2 - 1 = y + 1 := by omega
  have e3 : y + 1 + 1 = y + 2 := by omega
  have n0 := ny_246 (y := y) (by omega)
  have s0 := dd_d (y := y) hl (by omega)
  have n1 := ny_1a (y := (y + 1)) (by omega) (by omega) hn
  have s1 := dd_b (y := (y + 1)) hn (by omega)
  rw [e3] at s1
  have n2 := ny_246 (y := (y + 2)) (by omega)
  exact pair_of (a := 3) (b := 385) (c := 354) (by omega) (by omega) (by omega) (by decide)
theorem p_leaf332 {y : Int} (hp : leapB (y - 1) = false) (hl : leapB y = true) (hn : leapB (y + 1) = false) (hm : leapB (y + 2) = true) (hw : dd y % 7 = 2) (h0 : 23269 ≤ fp y) (h1 : fp y < 25920) : Pair (ny y % 7) (ny (y + 1) - ny y) (ny (y + 2) - ny (y + 1)) := by
  have e1 : y + 1 - 1 = y := by omega
  have e2 : y + 2 - 1 = y + 1 := by omega
  have e3 : y + 1 + 1 = y + 2 := by omega
  have n0 := ny_246 (y := y) (by omega)
  have s0 := dd_d (y := y) hl (by omega)
  have n1 := ny_1a (y := (y + 1)) (by omega) (by omega) hn
  have s1 := dd_b (y := (y + 1)) hn (by omega)
  rw [e3] at s1
  have n2 := ny_246 (y := (y + 2)) (by omega)
  exact pair_of (a := 3) (b := 385) (c := 354) (by omega) (by omega) (by omega) (by decide)
theorem p_leaf333 {y : Int} (hp : leapB (y - 1) = false) (hl : leapB y = true) (hn : leapB (y + 1) = false) (hm : leapB (y + 2) = true) (hw : dd y % 7 = 3) (h0 : 0 ≤ fp y) (h1 : fp y < 2651) : Pair (ny y % 7) (ny (y + 1) - ny y) (ny (y + 2) - ny (y + 1)) := by
  have e1 : y + 1 - 1 = y := by omega
  have e2 : y + 2 - 1 = y + 1 := by omega
  have e3 : y + 1 + 1 = y + 2 := by omega
  have n0 := ny_35 (y := y) (by omega)
  have s0 := dd_c (y := y) hl (by omega)
  have n1 := ny_1a (y := (y + 1)) (by omega) (by omega) hn
  have s1 := dd_b (y := (y + 1)) hn (by omega)
  rw [e3] at s1
  have n2 := ny_246 (y := (y + 2)) (by omega)
  exact pair_of (a := 3) (b := 385) (c := 354) (by omega) (by omega) (by omega) (by decide)
theorem p_leaf334 {y : Int} (hp : leapB (y - 1) = false) (hl : leapB y = true) (hn : leapB (y + 1) = false) (hm : leapB (y + 2) = true) (hw : dd y % 7 = 3) (h0 : 2651 ≤ fp y) (h1 : fp y < 5302) : Pair (ny y % 7) (ny (y + 1) - ny y) (ny (y + 2) - ny (y + 1)) := by
  have e1 : y + 1 - 1 = y := by omega
  have e2 : y + 2 - 1 = y + 1 := by omega
  have e3 : y + 1 + 1 = y + 2 := by omega
  have n0 := ny_35 (y := y) (by omega)
  have s0 := dd_d (y := y) hl (by omega)
  have n1 := ny_246 (y := (y + 1)) (by omega)
  have s1 := dd_a (y := (y + 1)) hn (by omega)
  rw [e3] at s1
  have n2 := ny_246 (y := (y + 2)) (by omega)
  exact pair_of (a := 3) (b := 385) (c := 354) (by omega) (by omega) (by omega) (by decide)
theorem p_leaf335 {y : Int} (hp : leapB (y - 1) = false) (hl : leapB y = true) (hn : leapB (y + 1) = false) (hm : leapB (y + 2) = true) (hw : dd y % 7 = 3) (h0 : 5302 ≤ fp y) (h1 : fp y < 9539) : Pair (ny y % 7) (ny (y + 1) - ny y) (ny (y + 2) - ny (y + 1)) := by
  have e1 : y + 1 - 1 = y := by omega
  have e2 : y + 2 - 1 = y + 1 := by omega
  have e3 : y + 1 + 1 = y + 2 := by omega
  have n0 := ny_35 (y := y) (by omega)
  have s0 := dd_d (y := y) hl (by omega)
  have n1 := ny_246 (y := (y + 1)) (by omega)
  have s1 := dd_a (y := (y + 1)) hn (by omega)
  rw [e3] at s1
  have n2 := ny_246 (y := (y + 2)) (by omega)
  exact pair_of (a := 3) (b := 385) (c := 354) (by omega) (by omega) (by omega) (by decide)
theorem p_leaf336 {y : Int} (hp : leapB (y - 1) = false) (hl : leapB y = true) (hn : leapB (y + 1) = false) (hm : leapB (y + 2) = true) (hw : dd y % 7 = 3) (h0 : 9539 ≤ fp y) (h1 : fp y < 16404) : Pair (ny y % 7) (ny (y + 1) - ny y) (ny (y + 2) - ny (y + 1)) := by
  have e1 : y + 1 - 1 = y := by omega
  have e2 : y + 2 - 1 = y + 1 := by omega
  have e3 : y + 1 + 1 = y + 2 := by omega
  have n0 := ny_35 (y := y) (by omega)
  have s0 := dd_d (y := y) hl (by omega)
  have n1 := ny_246 (y := (y + 1)) (by omega)
  have s1 := dd_a (y := (y + 1)) hn (by omega)
  rw [e3] at s1
  have n2 := ny_246 (y := (y + 2)) (by omega)
  exact pair_of (a := 3) (b := 385) (c := 354) (by omega) (by omega) (by omega) (by decide)
theorem p_leaf337 {y : Int} (hp : leapB (y - 1) = false) (hl : leapB y = true) (hn : leapB (y + 1) = false) (hm : leapB (y + 2) = true) (hw : dd y % 7 = 3) (h0 : 16404 ≤ fp y) (h1 : fp y < 19055) : Pair (ny y % 7) (ny (y + 1) - ny y) (ny (y + 2) - ny (y + 1)) := by
  have e1 : y + 1 - 1 = y := by omega
  have e2 : y + 2 - 1 = y + 1 := by omega
  have e3 : y + 1 + 1 = y + 2 := by omega
  have n0 := ny_35 (y := y) (by omega)
  have s0 := dd_d (y := y) hl (by omega)
  have n1 := ny_246 (y := (y + 1)) (by omega)
  have s1 := dd_a (y := (y + 1)) hn (by omega)
  rw [e3] at s1
  have n2 := ny_246 (y := (y + 2)) (by omega)
  exact pair_of (a := 3) (b := 385) (c := 354) (by omega) (by omega) (by omega) (by decide)
theorem p_leaf338 {y : Int} (hp : leapB (y - 1) = false) (hl : leapB y = true) (hn : leapB (y + 1) = false) (hm : leapB (y + 2) = true) (hw : dd y % 7 = 3) (h0 : 19055 ≤ fp y) (h1 : fp y < 21706) : Pair (ny y % 7) (ny (y + 1) - ny y) (ny (y + 2) - ny (y + 1)) := by
  have e1 : y + 1 - 1 = y := by omega
  have e2 : y + 2 - 1 = y + 1 := by omega
  have e3 : y + 1 + 1 = y + 2 := by omega
  have n0 := ny_35 (y := y) (by omega)
  have s0 := dd_d (y := y) hl (by omega)
  have n1 := ny_246 (y := (y + 1)) (by omega)
  have s1 := dd_b (y := (y + 1)) hn (by omega)
  rw [e3] at s1
  have n2 := ny_0c (y := (y + 2)) (by omega) (by rw [e2]; exact hn)
  exact pair_of (a := 3) (b := 385) (c := 354) (by omega) (by omega) (by omega) (by decide)
theorem p_leaf339 {y : Int} (hp : leapB (y - 1) = false) (hl : leapB y = true) (hn : leapB (y + 1) = false) (hm : leapB (y + 2) = true) (hw : dd y % 7 = 3) (h0 : 21706 ≤ fp y) (h1 : fp y < 23269) : Pair (ny y % 7) (ny (y + 1) - ny y) (ny (y + 2) - ny (y + 1)) := by
  have e1 : y + 1 - 1 = y := by omega
  have e2 : y + 2 - 1 = y + 1 := by omega
  have e3 : y + 1 + 1 = y + 2 := by omega
  have n0 := ny_35 (y := y) (by omega)
  have s0 := dd_d (y := y) hl (by omega)
  have n1 := ny_246 (y := (y + 1)) (by omega)
  have s1 := dd_b (y := (y + 1)) hn (by omega)
  rw [e3] at s1
  have n2 := ny_0c (y := (y + 2)) (by omega) (by rw [e2]; exact hn)
  exact pair_of (a := 3) (b := 385) (c := 354) (by omega) (by omega) (by omega) (by decide)
theorem p_leaf340 {y : Int} (hp : leapB (y - 1) = false) (hl : leapB y = true) (hn : leapB (y + 1) = false) (hm : leapB (y + 2) = true) (hw : dd y % 7 = 3) (h0 : 23269 ≤ fp y) (h1 : fp y < 25920) : Pair (ny y % 7) (ny (y + 1) - ny y) (ny (y + 2) - ny (y + 1)) := by
  have e1 : y + 1 - 1 = y := by omega
  have e2 : y + 2 - 1 = y + 1 := by omega
  have e3 : y + 1 + 1 = y + 2 := by omega
  have n0 := ny_35 (y := y) (by omega)
  have s0 := dd_d (y := y) hl (by omega)
  have n1 := ny_246 (y := (y + 1)) (by omega)
  have s1 := dd_b (y := (y + 1)) hn (by omega)
  rw [e3] at s1
  have n2 := ny_0c (y := (y + 2)) (by omega) (by rw [e2]; exact hn)
  exact pair_of (a := 3) (b := 385) (c := 354) (by omega) (by omega) (by omega) (by decide)
theorem p_leaf341 {y : Int} (hp : leapB (y - 1) = false) (hl : leapB y = true) (hn : leapB (y + 1) = false) (hm : leapB (y + 2) = true) (hw : dd y % 7 = 4) (h0 : 0 ≤ fp y) (h1 : fp y < 2651) : Pair (ny y % 7) (ny (y + 1) - ny y) (ny (y + 2) - ny (y + 1)) := by
  have e1 : y + 1 - 1 = y := by omega
  have e2 : y + 2 - 1 = y + 1 := by omega
  have e3 : y + 1 + 1 = y + 2 := by omega
  have n0 := ny_246 (y := y) (by omega)
  have s0 := dd_c (y := y) hl (by omega)
  have n1 := ny_246 (y := (y + 1)) (by omega)
  have s1 := dd_b (y := (y + 1)) hn (by omega)
  rw [e3] at s1
  have n2 := ny_0c (y := (y + 2)) (by omega) (by rw [e2]; exact hn)
  exact pair_of (a := 5) (b := 383) (c := 354) (by omega) (by omega) (by omega) (by decide)
theorem p_leaf342 {y : Int} (hp : leapB (y - 1) = false) (hl : leapB y = true) (hn : leapB (y + 1) = false) (hm : leapB (y + 2) = true) (hw : dd y % 7 = 4) (h0 : 2651 ≤ fp y) (h1 : fp y < 5302) : Pair (ny y % 7) (ny (y + 1) - ny y) (ny (y + 2) - ny (y + 1)) := by
  have e1 : y + 1 - 1 = y := by omega
  have e2 : y + 2 - 1 = y + 1 := by omega
  have e3 : y + 1 + 1 = y + 2 := by omega
  have n0 := ny_246 (y := y) (by omega)
  have s0 := dd_d (y := y) hl (by omega)
  have n1 := ny_35 (y := (y + 1)) (by omega)
  have s1 := dd_a (y := (y + 1)) hn (by omega)
  rw [e3] at s1
  have n2 := ny_0c (y := (y + 2)) (by omega) (by rw [e2]; exact hn)
  exact pair_of (a := 5) (b := 383) (c := 354) (by omega) (by omega) (by omega) (by decide)
theorem p_leaf343 {y : Int} (hp : leapB (y - 1) = false) (hl : leapB y = true) (hn : leapB (y + 1) = false) (hm : leapB (y + 2) = true) (hw : dd y % 7 = 4) (h0 : 5302 ≤ fp y) (h1 : fp y < 9539) : Pair (ny y % 7) (ny (y + 1) - ny y) (ny (y + 2) - ny (y + 1)) := by
  have e1 : y + 1 - 1 = y := by omega
  have e2 : y + 2 - 1 = y + 1 := by omega
  have e3 : y + 1 + 1 = y + 2 := by omega
  have n0 := ny_246 (y := y) (by omega)
  have s0 := dd_d (y := y) hl (by omega)
  have n1 := ny_35 (y := (y + 1)) (by omega)
  have s1 := dd_a (y := (y + 1)) hn (by omega)
  rw [e3] at s1
  have n2 := ny_0c (y := (y + 2)) (by omega) (by rw [e2]; exact hn)
  exact pair_of (a := 5) (b := 383) (c := 354) (by omega) (by omega) (by omega) (by decide)
theorem p_leaf344 {y : Int} (hp : leapB (y - 1) = false) (hl : leapB y = true) (hn : leapB (y + 1) = false) (hm : leapB (y + 2) = true) (hw : dd y % 7 = 4) (h0 : 9539 ≤ fp y) (h1 : fp y < 16404) : Pair (ny y % 7) (ny (y + 1) - ny y) (ny (y + 2) - ny (y + 1)) := by
  have e1 : y + 1 - 1 = y := by omega
  have e2 : y + 2 - 1 = y + 1 := by omega
  have e3 : y + 1 + 1 = y + 2 := by omega
  have n0 := ny_246 (y := y) (by omega)
  have s0 := dd_d (y := y) hl (by omega)
  have n1 := ny_35 (y := (y + 1)) (by omega)
  have s1 := dd_a (y := (y + 1)) hn (by omega)
  rw [e3] at s1
  have n2 := ny_0c (y := (y + 2)) (by omega) (by rw [e2]; exact hn)
  exact pair_of (a := 5) (b := 383) (c := 354) (by omega) (by omega) (by omega) (by decide)
theorem p_leaf345 {y : Int} (hp : leapB (y - 1) = false) (hl : leapB y = true) (hn : leapB (y + 1) = false) (hm : leapB (y + 2) = true) (hw : dd y % 7 = 4) (h0 : 16404 ≤ fp y) (h1 : fp y < 19055) : Pair (ny y % 7) (ny (y + 1) - ny y) (ny (y + 2) - ny (y + 1)) := by
  have e1 : y + 1 - 1 = y := by omega
  have e2 : y + 2 - 1 = y + 1 := by omega
  have e3 : y + 1 + 1 = y + 2 := by omega
  have n0 := ny_246 (y := y) (by omega)
  have s0 := dd_d (y := y) hl (by omega)
  have n1 := ny_35 (y := (y + 1)) (by omega)
  have s1 := dd_a (y := (y + 1)) hn (by omega)
  rw [e3] at s1
  have n2 := ny_0c (y := (y + 2)) (by omega) (by rw [e2]; exact hn)
  exact pair_of (a := 5) (b := 383) (c := 354) (by omega) (by omega) (by omega) (by decide)
theorem p_leaf346 {y : Int} (hp : leapB (y - 1) = false) (hl : leapB y = true) (hn : leapB (y + 1) = false) (hm : leapB (y + 2) = true) (hw : dd y % 7 = 4) (h0 : 19055 ≤ fp y) (h1 : fp y < 21706) : Pair (ny y % 7) (ny (y + 1) - ny y) (ny (y + 2) - ny (y + 1)) := by
  have e1 : y + 1 - 1 = y := by omega
  have e2 : y + 2 - 1 = y + 1 := by omega
  have e3 : y + 1 + 1 = y + 2 := by omega
  have n0 := ny_246 (y := y) (by omega)
  have s0 := dd_d (y := y) hl (by omega)
  have n1 := ny_35 (y := (y + 1)) (by omega)
  have s1 := dd_b (y := (y + 1)) hn (by omega)
  rw [e3] at s1
  have n2 := ny_1c (y := (y + 2)) (by omega) hm
  exact pair_of (a := 5) (b := 383) (c := 355) (by omega) (by omega) (by omega) (by decide)
theorem p_leaf347 {y : Int} (hp : leapB (y - 1) = false) (hl : leapB y = true) (hn : leapB (y + 1) = false) (hm : leapB (y + 2) = true) (hw : dd y % 7 = 4) (h0 : 21706 ≤ fp y) (h1 : fp y < 23269) : Pair (ny y % 7) (ny (y + 1) - ny y) (ny (y + 2) - ny (y + 1)) := by
  have e1 : y + 1 - 1 = y := by omega
  have e2 : y + 2 - 1 = y + 1 := by omega
  have e3 : y + 1 + 1 = y + 2 := by omega
  have n0 := ny_246 (y := y) (by omega)
  have s0 := dd_d (y := y) hl (by omega)
  have n1 := ny_35 (y := (y + 1)) (by omega)
  have s1 := dd_b (y := (y + 1)) hn (by omega)
  rw [e3] at s1
  have n2 := ny_1c (y := (y + 2)) (by omega) hm
  exact pair_of (a := 5) (b := 383) (c := 355) (by omega) (by omega) (by omega) (by decide)
theorem p_leaf348 {y : Int} (hp : leapB (y - 1) = false) (hl : leapB y = true) (hn : leapB (y + 1) = false) (hm : leapB (y + 2) = true) (hw : dd y % 7 = 4) (h0 : 23269 ≤ fp y) (h1 : fp y < 25920) : Pair (ny y % 7) (ny (y + 1) - ny y) (ny (y + 2) - ny (y + 1)) := by
  have e1 : y + 1 - 1 = y := by omega
  have e2 : y + 2 - 1 = y + 1 := by omega
  have e3 : y + 1 + 1 = y + 2 := by omega
  have n0 := ny_246 (y := y) (by omega)
  have s0 := dd_d (y := y) hl (by omega)
  have n1 := ny_35 (y := (y + 1)) (by omega)
  have s1 := dd_b (y := (y + 1)) hn (by omega)
  rw [e3] at s1
  have n2 := ny_1c (y := (y + 2)) (by omega) hm
  exact pair_of (a := 5) (b := 383) (c := 355) (by omega) (by omega) (by omega) (by decide)
theorem p_leaf349 {y : Int} (hp : leapB (y - 1) = false) (hl : leapB y = true) (hn : leapB (y + 1) = false) (hm : leapB (y + 2) = true) (hw : dd y % 7 = 5) (h0 : 0 ≤ fp y) (h1 : fp y < 2651) : Pair (ny y % 7) (ny (y + 1) - ny y) (ny (y + 2) - ny (y + 1)) := by
  have e1 : y + 1 - 1 = y := by omega
  have e2 : y + 2 - 1 = y + 1 := by omega
  have e3 : y + 1 + 1 = y + 2 := by omega
  have n0 := ny_35 (y := y) (by omega)
  have s0 := dd_c (y := y) hl (by omega)
  have n1 := ny_35 (y := (y + 1)) (by omega)
  have s1 := dd_b (y := (y + 1)) hn (by omega)
  rw [e3] at s1
  have n2 := ny_1c (y := (y + 2)) (by omega) hm
  exact pair_of (a := 5) (b := 383) (c := 355) (by omega) (by omega) (by omega) (by decide)
theorem p_leaf350 {y : Int} (hp : leapB (y - 1) = false) (hl : leapB y = true) (hn : leapB (y + 1) = false) (hm : leapB (y + 2) = true) (hw : dd y % 7 = 5) (h0 : 2651 ≤ fp y) (h1 : fp y < 5302) : Pair (ny y % 7) (ny (y + 1) - ny y) (ny (y + 2) - ny (y + 1)) := by
  have e1 : y + 1 - 1 = y := by omega
  have e2 : y + 2 - 1 = y + 1 := by omega
  have e3 : y + 1 + 1 = y + 2 := by omega
  have n0 := ny_35 (y := y) (by omega)
  have s0 := dd_d (y := y) hl (by omega)
  have n1 := ny_246 (y := (y + 1)) (by omega)
  have s1 := dd_a (y := (y + 1)) hn (by omega)
  rw [e3] at s1
  have n2 := ny_1c (y := (y + 2)) (by omega) hm
  exact pair_of (a := 5) (b := 385) (c := 353) (by omega) (by omega) (by omega) (by decide)
theorem p_leaf351 {y : Int} (hp : leapB (y - 1) = false) (hl : leapB y = true) (hn : leapB (y + 1) = false) (hm : leapB (y + 2) = true) (hw : dd y % 7 = 5) (h0 : 5302 ≤ fp y) (h1 : fp y < 9539) : Pair (ny y % 7) (ny (y + 1) - ny y) (ny (y + 2) - ny (y + 1)) := by
  have e1 : y + 1 - 1 = y := by omega
  have e2 : y + 2 - 1 = y + 1 := by omega
  have e3 : y + 1 + 1 = y + 2 := by omega
  have n0 := ny_35 (y := y) (by omega)
  have s0 := dd_d (y := y) hl (by omega)
  have n1 := ny_246 (y := (y + 1)) (by omega)
  have s1 := dd_a (y := (y + 1)) hn (by omega)
  rw [e3] at s1
  have n2 := ny_1c (y := (y + 2)) (by omega) hm
  exact pair_of (a := 5) (b := 385) (c := 353) (by omega) (by omega) (by omega) (by decide)
theorem p_leaf352 {y : Int} (hp : leapB (y - 1) = false) (hl : leapB y = true) (hn : leapB (y + 1) = false) (hm : leapB (y + 2) = true) (hw : dd y % 7 = 5) (h0 : 9539 ≤ fp y) (h1 : fp y < 16404) : Pair (ny y % 7) (ny (y + 1) - ny y) (ny (y + 2) - ny (y + 1)) := by
  have e1 : y + 1 - 1 = y := by omega
  have e2 : y + 2 - 1 = y + 1 := by omega
  have e3 : y + 1 + 1 = y + 2 := by omega
  have n0 := ny_35 (y := y) (by omega)
  have s0 := dd_d (y := y) hl (by omega)
  have n1 := ny_246 (y := (y + 1)) (by omega)
  have s1 := dd_a (y := (y + 1)) hn (by omega)
  rw [e3] at s1
  have n2 := ny_1c (y := (y + 2)) (by omega) hm
  exact pair_of (a := 5) (b := 385) (c := 353) (by omega) (by omega) (by omega) (by decide)
theorem p_leaf353 {y : Int} (hp : leapB (y - 1) = false) (hl : leapB y = true) (hn : leapB (y + 1) = false) (hm : leapB (y + 2) = true) (hw : dd y % 7 = 5) (h0 : 16404 ≤ fp y) (h1 : fp y < 19055) : Pair (ny y % 7) (ny (y + 1) - ny y) (ny (y + 2) - ny (y + 1)) := by
  have e1 : y + 1 - 1 = y := by omega
  have e2 : y + 2 - 1 = y + 1 := by omega
  have e3 : y + 1 + 1 = y + 2 := by omega
  have n0 := ny_35 (y := y) (by omega)
  have s0 := dd_d (y := y) hl (by omega)
  have n1 := ny_246 (y := (y + 1)) (by omega)
  have s1 := dd_a (y := (y + 1)) hn (by omega)
  rw [e3] at s1
  have n2 := ny_1c (y := (y + 2)) (by omega) hm
  exact pair_of (a := 5) (b := 385) (c := 353) (by omega) (by omega) (by omega) (by decide)
theorem p_leaf354 {y : Int} (hp : leapB (y - 1) = false) (hl : leapB y = true) (hn : leapB (y + 1) = false) (hm : leapB (y + 2) = true) (hw : dd y % 7 = 5) (h0 : 19055 ≤ fp y) (h1 : fp y < 21706) : Pair (ny y % 7) (ny (y + 1) - ny y) (ny (y + 2) - ny (y + 1)) := by
  have e1 : y + 1 - 1 = y := by omega
  have e2 : y + 2 - 1 = y + 1 := by omega
  have e3 : y + 1 + 1 = y + 2 := by omega
  have n0 := ny_35 (y := y) (by omega)
  have s0 := dd_d (y := y) hl (by omega)
  have n1 := ny_246 (y := (y + 1)) (by omega)
  have s1 := dd_b (y := (y + 1)) hn (by omega)
  rw [e3] at s1
  have n2 := ny_246 (y := (y + 2)) (by omega)
  exact pair_of (a := 5) (b := 385) (c := 355) (by omega) (by omega) (by omega) (by decide)
theorem p_leaf355 {y : Int} (hp : leapB (y - 1) = false) (hl : leapB y = true) (hn : leapB (y + 1) = false) (hm : leapB (y + 2) = true) (hw : dd y % 7 = 5) (h0 : 21706 ≤ fp y) (h1 : fp y < 23269) : Pair (ny y % 7) (ny (y + 1) - ny y) (ny (y + 2) - ny (y + 1)) := by
  have e1 : y + 1 - 1 = y := by omega
  have e2 : y + 2 - 1 = y + 1 := by omega
  have e3 : y + 1 + 1 = y + 2 := by omega
  have n0 := ny_35 (y := y) (by omega)
  have s0 := dd_d (y := y) hl (by omega)
  have n1 := ny_246 (y := (y + 1)) (by omega)
  have s1 := dd_b (y := (y + 1)) hn (by omega)
  rw [e3] at s1
  have n2 := ny_246 (y := (y + 2)) (by omega)
  exact pair_of (a := 5) (b := 385) (c := 355) (by omega) (by omega) (by omega) (by decide)
theorem p_leaf356 {y : Int} (hp : leapB (y - 1) = false) (hl : leapB y = true) (hn : leapB (y + 1) = false) (hm : leapB (y + 2) = true) (hw : dd y % 7 = 5) (h0 : 23269 ≤ fp y) (h1 : fp y < 25920) : Pair (ny y % 7) (ny (y + 1) - ny y) (ny (y + 2) - ny (y + 1)) := by
  have e1 : y + 1 - 1 = y := by omega
  have e2 : y + 2 - 1 = y + 1 := by omega
  have e3 : y + 1 + 1 = y + 2 := by omega
  have n0 := ny_35 (y := y) (by omega)
  have s0 := dd_d (y := y) hl (by omega)
  have n1 := ny_246 (y := (y + 1)) (by omega)
  have s1 := dd_b (y := (y + 1)) hn (by omega)
  rw [e3] at s1
  have n2 := ny_246 (y := (y + 2)) (by omega)
  exact pair_of (a := 5) (b := 385) (c := 355) (by omega) (by omega) (by omega) (by decide)
theorem p_leaf357 {y : Int} (hp : leapB (y - 1) = false) (hl : leapB y = true) (hn : leapB (y + 1) = false) (hm : leapB (y + 2) = true) (hw : dd y % 7 = 6) (h0 : 0 ≤ fp y) (h1 : fp y < 2651) : Pair (ny y % 7) (ny (y + 1) - ny y) (ny (y + 2) - ny (y + 1)) := by
  have e1 : y + 1 - 1 = y := by omega
  have e2 : y + 2 - 1 = y + 1 := by omega
  have e3 : y + 1 + 1 = y + 2 := by omega
  have n0 := ny_246 (y := y) (by omega)
  have s0 := dd_c (y := y) hl (by omega)
  have n1 := ny_246 (y := (y + 1)) (by omega)
  have s1 := dd_b (y := (y + 1)) hn (by omega)
  rw [e3] at s1
  have n2 := ny_246 (y := (y + 2)) (by omega)
  exact pair_of (a := 0) (b := 383) (c := 355) (by omega) (by omega) (by omega) (by decide)
theorem p_leaf358 {y : Int} (hp : leapB (y - 1) = false) (hl : leapB y = true) (hn : leapB (y + 1) = false) (hm : leapB (y + 2) = true) (hw : dd y % 7 = 6) (h0 : 2651 ≤ fp y) (h1 : fp y < 5302) : Pair (ny y % 7) (ny (y + 1) - ny y) (ny (y + 2) - ny (y + 1)) := by
  have e1 : y + 1 - 1 = y := by omega
  have e2 : y + 2 - 1 = y + 1 := by omega
  have e3 : y + 1 + 1 = y + 2 := by omega
  have n0 := ny_246 (y := y) (by omega)
  have s0 := dd_d (y := y) hl (by omega)
  have n1 := ny_35 (y := (y + 1)) (by omega)
  have s1 := dd_a (y := (y + 1)) hn (by omega)
  rw [e3] at s1
  have n2 := ny_246 (y := (y + 2)) (by omega)
  exact pair_of (a := 0) (b := 383) (c := 355) (by omega) (by omega) (by omega) (by decide)
theorem p_leaf359 {y : Int} (hp : leapB (y - 1) = false) (hl : leapB y = true) (hn : leapB (y + 1) = false) (hm : leapB (y + 2) = true) (hw : dd y % 7 = 6) (h0 : 5302 ≤ fp y) (h1 : fp y < 9539) : Pair (ny y % 7) (ny (y + 1) - ny y) (ny (y + 2) - ny (y + 1)) := by
  have e1 : y + 1 - 1 = y := by omega
  have e2 : y + 2 - 1 = y + 1 := by omega
  have e3 : y + 1 + 1 = y + 2 := by omega
  have n0 := ny_246 (y := y) (by omega)
  have s0 := dd_d (y := y) hl (by omega)
  have n1 := ny_35 (y := (y + 1)) (by omega)
  have s1 := dd_a (y := (y + 1)) hn (by omega)
  rw [e3] at s1
  have n2 := ny_246 (y := (y + 2)) (by omega)
  exact pair_of (a := 0) (b := 383) (c := 355) (by omega) (by omega) (by omega) (by decide)
theorem p_leaf360 {y : Int} (hp : leapB (y - 1) = false) (hl : leapB y = true) (hn : leapB (y + 1) = false) (hm : leapB (y + 2) = true) (hw : dd y % 7 = 6) (h0 : 9539 ≤ fp y) (h1 : fp y < 16404) : Pair (ny y % 7) (ny (y + 1) - ny y) (ny (y + 2) - ny (y + 1)) := by
  have e1 : y + 1 - 1 = y := by omega
  have e2 : y + 2 - 1 = y + 1 := by omega
  have e3 : y + 1 + 1 = y + 2 := by omega
  have n0 := ny_246 (y := y) (by omega)
  have s0 := dd_d (y := y) hl (by omega)
  have n1 := ny_35 (y := (y + 1)) (by omega)
  have s1 := dd_a (y := (y + 1)) hn (by omega)
  rw [e3] at s1
  have n2 := ny_246 (y := (y + 2)) (by omega)
  exact pair_of (a := 0) (b := 383) (c := 355) (by omega) (by omega) (by omega) (by decide)
theorem p_leaf361 {y : Int} (hp : leapB (y - 1) = false) (hl : leapB y = true) (hn : leapB (y + 1) = false) (hm : leapB (y + 2) = true) (hw : dd y % 7 = 6) (h0 : 16404 ≤ fp y) (h1 : fp y < 19055) : Pair (ny y % 7) (ny (y + 1) - ny y) (ny (y + 2) - ny (y + 1)) := by
  have e1 : y + 1 - 1 = y := by omega
  have e2 : y + 2 - 1 = y + 1 := by omega
  have e3 : y + 1 + 1 = y + 2 := by omega
  have n0 := ny_246 (y := y) (by omega)
  have s0 := dd_d (y := y) hl (by omega)
  have n1 := ny_35 (y := (y + 1)) (by omega)
  have s1 := dd_a (y := (y + 1)) hn (by omega)
  rw [e3] at s1
  have n2 := ny_246 (y := (y + 2)) (by omega)
  exact pair_of (a := 0) (b := 383) (c := 355) (by omega) (by omega) (by omega) (by decide)
theorem p_leaf362 {y : Int} (hp : leapB (y - 1) = false) (hl : leapB y = true) (hn : leapB (y + 1) = false) (hm : leapB (y + 2) = true) (hw : dd y % 7 = 6) (h0 : 19055 ≤ fp y) (h1 : fp y < 21706) : Pair (ny y % 7) (ny (y + 1) - ny y) (ny (y + 2) - ny (y + 1)) := by
  have e1 : y + 1 - 1 = y := by omega
  have e2 : y + 2 - 1 = y + 1 := by omega
  have e3 : y + 1 + 1 = y + 2 := by omega
  have n0 := ny_246 (y := y) (by omega)
  have s0 := dd_d (y := y) hl (by omega)
  have n1 := ny_35 (y := (y + 1)) (by omega)
  have s1 := dd_b (y := (y + 1)) hn (by omega)
  rw [e3] at s1
  have n2 := ny_35 (y := (y + 2)) (by omega)
  exact pair_of (a := 0) (b := 383) (c := 355) (by omega) (by omega) (by omega) (by decide)
theorem p_leaf363 {y : Int} (hp : leapB (y - 1) = false) (hl : leapB y = true) (hn : leapB (y + 1) = false) (hm : leapB (y + 2) = true) (hw : dd y % 7 = 6) (h0 : 21706 ≤ fp y) (h1 : fp y < 23269) : Pair (ny y % 7) (ny (y + 1) - ny y) (ny (y + 2) - ny (y + 1)) := by
  have e1 : y + 1 - 1 = y := by omega
  have e2 : y + 2 - 1 = y + 1 := by omega
  have e3 : y + 1 + 1 = y + 2 := by omega
  have n0 := ny_246 (y := y) (by omega)
  have s0 := dd_d (y := y) hl (by omega)
  have n1 := ny_35 (y := (y + 1)) (by omega)
  have s1 := dd_b (y := (y + 1)) hn (by omega)
  rw [e3] at s1
  have n2 := ny_35 (y := (y + 2)) (by omega)
  exact pair_of (a := 0) (b := 383) (c := 355) (by omega) (by omega) (by omega) (by decide)
theorem p_leaf364 {y : Int} (hp : leapB (y - 1) = false) (hl : leapB y = true) (hn : leapB (y + 1) = false) (hm : leapB (y + 2) = true) (hw : dd y % 7 = 6) (h0 : 23269 ≤ fp y) (h1 : fp y < 25920) : Pair (ny y % 7) (ny (y + 1) - ny y) (ny (y + 2) - ny (y + 1)) := by
  have e1 : y + 1 - 1 = y := by omega
  have e2 : y + 2 - 1 = y + 1 := by omega
  have e3 : y + 1 + 1 = y + 2 := by omega
  have n0 := ny_246 (y := y) (by omega)
  have s0 := dd_d (y := y) hl (by omega)
  have n1 := ny_35 (y := (y + 1)) (by omega)
  have s1 := dd_b (y := (y + 1)) hn (by omega)
  rw [e3] at s1
  have n2 := ny_35 (y := (y + 2)) (by omega)
  exact pair_of (a := 0) (b := 383) (c := 355) (by omega) (by omega) (by omega) (by decide)
theorem p_ftft {y : Int} (hp : leapB (y - 1) = false) (hl : leapB y = true) (hn : leapB (y + 1) = false) (hm : leapB (y + 2) = true) : Pair (ny y % 7) (ny (y + 1) - ny y) (ny (y + 2) - ny (y + 1)) := by
  have b0 := fp_bd y
  have hw : dd y % 7 = 0 ∨ dd y % 7 = 1 ∨ dd y % 7 = 2 ∨ dd y % 7 = 3 ∨ dd y % 7 = 4 ∨ dd y % 7 = 5 ∨ dd y % 7 = 6 := by omega
  have hi : (0 ≤ fp y ∧ fp y < 2651) ∨ (2651 ≤ fp y ∧ fp y < 5302) ∨ (5302 ≤ fp y ∧ fp y < 9539) ∨ (9539 ≤ fp y ∧ fp y < 16404) ∨ (16404 ≤ fp y ∧ fp y < 19055) ∨ (19055 ≤ fp y ∧ fp y < 21706) ∨ (21706 ≤ fp y ∧ fp y < 23269) ∨ (23269 ≤ fp y ∧ fp y < 25920) := by omega
  rcases hw with hw | hw | hw | hw | hw | hw | hw <;> rcases hi with hi | hi | hi | hi | hi | hi | hi | hi
  · exact p_leaf309 hp hl hn hm hw hi.1 hi.2
  · exact p_leaf310 hp hl hn hm hw hi.1 hi.2
  · exact p_leaf311 hp hl hn hm hw hi.1 hi.2
  · exact p_leaf312 hp hl hn hm hw hi.1 hi.2
  · exact p_leaf313 hp hl hn hm hw hi.1 hi.2
  · exact p_leaf314 hp hl hn hm hw hi.1 hi.2
  · exact p_leaf315 hp hl hn hm hw hi.1 hi.2
  · exact p_leaf316 hp hl hn hm hw hi.1 hi.2
  · exact p_leaf317 hp hl hn hm hw hi.1 hi.2
  · exact p_leaf318 hp hl hn hm hw hi.1 hi.2
  · exact p_leaf319 hp hl hn hm hw hi.1 hi.2
  · exact p_leaf320 hp hl hn hm hw hi.1 hi.2
  · exact p_leaf321 hp hl hn hm hw hi.1 hi.2
  · exact p_leaf322 hp hl hn hm hw hi.1 hi.2
  · exact p_leaf323 hp hl hn hm hw hi.1 hi.2
  · exact p_leaf324 hp hl hn hm hw hi.1 hi.2
  · exact p_leaf325 hp hl hn hm hw hi.1 hi.2
  · exact p_leaf326 hp hl hn hm hw hi.1 hi.2
  · exact p_leaf327 hp hl hn hm hw hi.1 hi.2
  · exact p_leaf328 hp hl hn hm hw hi.1 hi.2
  · exact p_leaf329 hp hl hn hm hw hi.1 hi.2
  · exact p_leaf330 hp hl hn hm hw hi.1 hi.2
  · exact p_leaf331 hp hl hn hm hw hi.1 hi.2
  · exact p_leaf332 hp hl hn hm hw hi.1 hi.2
  · exact p_leaf333 hp hl hn hm hw hi.1 hi.2
  · exact p_leaf334 hp hl hn hm hw hi.1 hi.2
  · exact p_leaf335 hp hl hn hm hw hi.1 hi.2
  · exact p_leaf336 hp hl hn hm hw hi.1 hi.2
  · exact p_leaf337 hp hl hn hm hw hi.1 hi.2
  · exact p_leaf338 hp hl hn hm hw hi.1 hi.2
  · exact p_leaf339 hp hl hn hm hw hi.1 hi.2
  · exact p_leaf340 hp hl hn hm hw hi.1 hi.2
  · exact p_leaf341 hp hl hn hm hw hi.1 hi.2
  · exact p_leaf342 hp hl hn hm hw hi.1 hi.2
  · exact p_leaf343 hp hl hn hm hw hi.1 hi.2
  · exact p_leaf344 hp hl hn hm hw hi.1 hi.2
  · exact p_leaf345 hp hl hn hm hw hi.1 hi.2
  · exact p_leaf346 hp hl hn hm hw hi.1 hi.2
  · exact p_leaf347 hp hl hn hm hw hi.1 hi.2
  · exact p_leaf348 hp hl hn hm hw hi.1 hi.2
  · exact p_leaf349 hp hl hn hm hw hi.1 hi.2
  · exact p_leaf350 hp hl hn hm hw hi.1 hi.2
  · exact p_leaf351 hp hl hn hm hw hi.1 hi.2
  · exact p_leaf352 hp hl hn hm hw hi.1 hi.2
  · exact p_leaf353 hp hl hn hm hw hi.1 hi.2
  · exact p_leaf354 hp hl hn hm hw hi.1 hi.2
  · exact p_leaf355 hp hl hn hm hw hi.1 hi.2
  · exact p_leaf356 hp hl hn hm hw hi.1 hi.2
  · exact p_leaf357 hp hl hn hm hw hi.1 hi.2
  · exact p_leaf358 hp hl hn hm hw hi.1 hi.2
  · exact p_leaf359 hp hl hn hm hw hi.1 hi.2
  · exact p_leaf360 hp hl hn hm hw hi.1 hi.2
  · exact p_leaf361 hp hl hn hm hw hi.1 hi.2
  · exact p_leaf362 hp hl hn hm hw hi.1 hi.2
  · exact p_leaf363 hp hl hn hm hw hi.1 hi.2
  · exact p_leaf364 hp hl hn hm hw hi.1 hi.2
theorem p_leaf365 {y : Int} (hp : leapB (y - 1) = true) (hl : leapB y = false) (hn : leapB (y + 1) = false) (hm : leapB (y + 2) = true) (hw : dd y % 7 = 0) (h0 : 0 ≤ fp y) (h1 : fp y < 2651) : Pair (ny y % 7) (ny (y + 1) - ny y) (ny (y + 2) - ny (y + 1)) := by
  have e1 : y + 1 - 1 = y := by omega
  have e2 : y + 2 - 1 = y + 1 := by omega
  have e3 : y + 1 + 1 = y + 2 := by omega
  have n0 := ny_0b (y := y) (by omega) (by omega)
  have s0 := dd_a (y := y) hl (by omega)
  have n1 := ny_246 (y := (y + 1)) (by omega)
  have s1 := dd_a (y := (y + 1)) hn (by omega)
  rw [e3] at s1
  have n2 := ny_1c (y := (y + 2)) (by omega) hm
  exact pair_of (a := 0) (b := 355) (c := 353) (by omega) (by omega) (by omega) (by decide)
theorem p_leaf366 {y : Int} (hp : leapB (y - 1) = true) (hl : leapB y = false) (hn : leapB (y + 1) = false) (hm : leapB (y + 2) = true) (hw : dd y % 7 = 0) (h0 : 2651 ≤ fp y) (h1 : fp y < 4237) : Pair (ny y % 7) (ny (y + 1) - ny y) (ny (y + 2) - ny (y + 1)) := by
  have e1 : y + 1 - 1 = y := by omega
  have e2 : y + 2 - 1 = y + 1 := by omega
  have e3 : y + 1 + 1 = y + 2 := by omega
  have n0 := ny_0b (y := y) (by omega) (by omega)
  have s0 := dd_a (y := y) hl (by omega)
  have n1 := ny_246 (y := (y + 1)) (by omega)
  have s1 := dd_a (y := (y + 1)) hn (by omega)
  rw [e3] at s1
  have n2 := ny_1c (y := (y + 2)) (by omega) hm
  exact pair_of (a := 0) (b := 355) (c := 353) (by omega) (by omega) (by omega) (by decide)
theorem p_leaf367 {y : Int} (hp : leapB (y - 1) = true) (hl : leapB y = false) (hn : leapB (y + 1) = false) (hm : leapB (y + 2) = true) (hw : dd y % 7 = 0) (h0 : 4237 ≤ fp y) (h1 : fp y < 6888) : Pair (ny y % 7) (ny (y + 1) - ny y) (ny (y + 2) - ny (y + 1)) := by
  have e1 : y + 1 - 1 = y := by omega
  have e2 : y + 2 - 1 = y + 1 := by omega
  have e3 : y + 1 + 1 = y + 2 := by omega
  have n0 := ny_0b (y := y) (by omega) (by omega)
  have s0 := dd_a (y := y) hl (by omega)
  have n1 := ny_246 (y := (y + 1)) (by omega)
  have s1 := dd_a (y := (y + 1)) hn (by omega)
  rw [e3] at s1
  have n2 := ny_1c (y := (y + 2)) (by omega) hm
  exact pair_of (a := 0) (b := 355) (c := 353) (by omega) (by omega) (by omega) (by decide)
theorem p_leaf368 {y : Int} (hp : leapB (y - 1) = true) (hl : leapB y = false) (hn : leapB (y + 1) = false) (hm : leapB (y + 2) = true) (hw : dd y % 7 = 0) (h0 : 6888 ≤ fp y) (h1 : fp y < 9539) : Pair (ny y % 7) (ny (y + 1) - ny y) (ny (y + 2) - ny (y + 1)) := by
  have e1 : y + 1 - 1 = y := by omega
  have e2 : y + 2 - 1 = y + 1 := by omega
  have e3 : y + 1 + 1 = y + 2 := by omega
  have n0 := ny_0b (y := y) (by omega) (by omega)
  have s0 := dd_a (y := y) hl (by omega)
  have n1 := ny_246 (y := (y + 1)) (by omega)
  have s1 := dd_b (y := (y + 1)) hn (by omega)
  rw [e3] at s1
  have n2 := ny_246 (y := (y + 2)) (by omega)
  exact pair_of (a := 0) (b := 355) (c := 355) (by omega) (by omega) (by omega) (by decide)
theorem p_leaf369 {y : Int} (hp : leapB (y - 1) = true) (hl : leapB y = false) (hn : leapB (y + 1) = false) (hm : leapB (y + 2) = true) (hw : dd y % 7 = 0) (h0 : 9539 ≤ fp y) (h1 : fp y < 13753) : Pair (ny y % 7) (ny (y + 1) - ny y) (ny (y + 2) - ny (y + 1)) := by
  have e1 : y + 1 - 1 = y := by omega
  have e2 : y + 2 - 1 = y + 1 := by omega
  have e3 : y + 1 + 1 = y + 2 := by omega
  have n0 := ny_0b (y := y) (by omega) (by omega)
  have s0 := dd_a (y := y) hl (by omega)
  have n1 := ny_246 (y := (y + 1)) (by omega)
  have s1 := dd_b (y := (y + 1)) hn (by omega)
  rw [e3] at s1
  have n2 := ny_246 (y := (y + 2)) (by omega)
  exact pair_of (a := 0) (b := 355) (c := 355) (by omega) (by omega) (by omega) (by decide)
theorem p_leaf370 {y : Int} (hp : leapB (y - 1) = true) (hl : leapB y = false) (hn : leapB (y + 1) = false) (hm : leapB (y + 2) = true) (hw : dd y % 7 = 0) (h0 : 13753 ≤ fp y) (h1 : fp y < 16404) : Pair (ny y % 7) (ny (y + 1) - ny y) (ny (y + 2) - ny (y + 1)) := by
  have e1 : y + 1 - 1 = y := by omega
  have e2 : y + 2 - 1 = y + 1 := by omega
  have e3 : y + 1 + 1 = y + 2 := by omega
  have n0 := ny_0b (y := y) (by omega) (by omega)
  have s0 := dd_a (y := y) hl (by omega)
  have n1 := ny_246 (y := (y + 1)) (by omega)
  have s1 := dd_b (y := (y + 1)) hn (by omega)
  rw [e3] at s1
  have n2 := ny_246 (y := (y + 2)) (by omega)
  exact pair_of (a := 0) (b := 355) (c := 355) (by omega) (by omega) (by omega) (by decide)
theorem p_leaf371 {y : Int} (hp : leapB (y - 1) = true) (hl : leapB y = false) (hn : leapB (y + 1) = false) (hm : leapB (y + 2) = true) (hw : dd y % 7 = 0) (h0 : 16404 ≤ fp y) (h1 : fp y < 19055) : Pair (ny y % 7) (ny (y + 1) - ny y) (ny (y + 2) - ny (y + 1)) := by
  have e1 : y + 1 - 1 = y := by omega
  have e2 : y + 2 - 1 = y + 1 := by omega
  have e3 : y + 1 + 1 = y + 2 := by omega
  have n0 := ny_0b (y := y) (by omega) (by omega)
  have s0 := dd_b (y := y) hl (by omega)
  have n1 := ny_35 (y := (y + 1)) (by omega)
  have s1 := dd_a (y := (y + 1)) hn (by omega)
  rw [e3] at s1
  have n2 := ny_246 (y := (y + 2)) (by omega)
  exact pair_of (a := 0) (b := 355) (c := 355) (by omega) (by omega) (by omega) (by decide)
theorem p_leaf372 {y : Int} (hp : leapB (y - 1) = true) (hl : leapB y = false) (hn : leapB (y + 1) = false) (hm : leapB (y + 2) = true) (hw : dd y % 7 = 0) (h0 : 19055 ≤ fp y) (h1 : fp y < 23269) : Pair (ny y % 7) (ny (y + 1) - ny y) (ny (y + 2) - ny (y + 1)) := by
  have e1 : y + 1 - 1 = y := by omega
  have e2 : y + 2 - 1 = y + 1 := by omega
  have e3 : y + 1 + 1 = y + 2 := by omega
  have n0 := ny_0b (y := y) (by omega) (by omega)
  have s0 := dd_b (y := y) hl (by omega)
  have n1 := ny_35 (y := (y + 1)) (by omega)
  have s1 := dd_a (y := (y + 1)) hn (by omega)
  rw [e3] at s1
  have n2 := ny_246 (y := (y + 2)) (by omega)
  exact pair_of (a := 0) (b := 355) (c := 355) (by omega) (by omega) (by omega) (by decide)
theorem p_leaf373 {y : Int} (hp : leapB (y - 1) = true) (hl : leapB y = false) (hn : leapB (y + 1) = false) (hm : leapB (y + 2) = true) (hw : dd y % 7 = 0) (h0 : 23269 ≤ fp y) (h1 : fp y < 23292) : Pair (ny y % 7) (ny (y + 1) - ny y) (ny (y + 2) - ny (y + 1)) := by
  have e1 : y + 1 - 1 = y := by omega
  have e2 : y + 2 - 1 = y + 1 := by omega
  have e3 : y + 1 + 1 = y + 2 := by omega
  have n0 := ny_0a (y := y) (by omega) (by omega) hp
  have s0 := dd_b (y := y) hl (by omega)
  have n1 := ny_35 (y := (y + 1)) (by omega)
  have s1 := dd_a (y := (y + 1)) hn (by omega)
  rw [e3] at s1
  have n2 := ny_246 (y := (y + 2)) (by omega)
  exact pair_of (a := 1) (b := 354) (c := 355) (by omega) (by omega) (by omega) (by decide)
theorem p_leaf374 {y : Int} (hp : leapB (y - 1) = true) (hl : leapB y = false) (hn : leapB (y + 1) = false) (hm : leapB (y + 2) = true) (hw : dd y % 7 = 0) (h0 : 23292 ≤ fp y) (h1 : fp y < 25920) : Pair (ny y % 7) (ny (y + 1) - ny y) (ny (y + 2) - ny (y + 1)) := by
  have e1 : y + 1 - 1 = y := by omega
  have e2 : y + 2 - 1 = y + 1 := by omega
  have e3 : y + 1 + 1 = y + 2 := by omega
  have n0 := ny_0a (y := y) (by omega) (by omega) hp
  have s0 := dd_b (y := y) hl (by omega)
  have n1 := ny_35 (y := (y + 1)) (by omega)
  have s1 := dd_a (y := (y + 1)) hn (by omega)
  rw [e3] at s1
  have n2 := ny_246 (y := (y + 2)) (by omega)
  exact pair_of (a := 1) (b := 354) (c := 355) (by omega) (by omega) (by omega) (by decide)
theorem p_leaf375 {y : Int} (hp : leapB (y - 1) = true) (hl : leapB y = false) (hn : leapB (y + 1) = false) (hm : leapB (y + 2) = true) (hw : dd y % 7 = 1) (h0 : 0 ≤ fp y) (h1 : fp y < 2651) : Pair (ny y % 7) (ny (y + 1) - ny y) (ny (y + 2) - ny (y + 1)) := by
  have e1 : y + 1 - 1 = y := by omega
  have e2 : y + 2 - 1 = y + 1 := by omega
  have e3 : y + 1 + 1 = y + 2 := by omega
  have n0 := ny_1b (y := y) (by omega) (by omega)
  have s0 := dd_a (y := y) hl (by omega)
  have n1 := ny_35 (y := (y + 1)) (by omega)
  have s1 := dd_a (y := (y + 1)) hn (by omega)
  rw [e3] at s1
  have n2 := ny_246 (y := (y + 2)) (by omega)
  exact pair_of (a := 1) (b := 354) (c := 355) (by omega) (by omega) (by omega) (by decide)
theorem p_leaf376 {y : Int} (hp : leapB (y - 1) = true) (hl : leapB y = false) (hn : leapB (y + 1) = false) (hm : leapB (y + 2) = true) (hw : dd y % 7 = 1) (h0 : 2651 ≤ fp y) (h1 : fp y < 4237) : Pair (ny y % 7) (ny (y + 1) - ny y) (ny (y + 2) - ny (y + 1)) := by
  have e1 : y + 1 - 1 = y := by omega
  have e2 : y + 2 - 1 = y + 1 := by omega
  have e3 : y + 1 + 1 = y + 2 := by omega
  have n0 := ny_1b (y := y) (by omega) (by omega)
  have s0 := dd_a (y := y) hl (by omega)
  have n1 := ny_35 (y := (y + 1)) (by omega)
  have s1 := dd_a (y := (y + 1)) hn (by omega)
  rw [e3] at s1
  have n2 := ny_246 (y := (y + 2)) (by omega)
  exact pair_of (a := 1) (b := 354) (c := 355) (by omega) (by omega) (by omega) (by decide)
theorem p_leaf377 {y : Int} (hp : leapB (y - 1) = true) (hl : leapB y = false) (hn : leapB (y + 1) = false) (hm : leapB (y + 2) = true) (hw : dd y % 7 = 1) (h0 : 4237 ≤ fp y) (h1 : fp y < 6888) : Pair (ny y % 7) (ny (y + 1) - ny y) (ny (y + 2) - ny (y + 1)) := by
  have e1 : y + 1 - 1 = y := by omega
  have e2 : y + 2 - 1 = y + 1 := by omega
  have e3 : y + 1 + 1 = y + 2 := by omega
  have n0 := ny_1b (y := y) (by omega) (by omega)
  have s0 := dd_a (y := y) hl (by omega)
  have n1 := ny_35 (y := (y + 1)) (by omega)
  have s1 := dd_a (y := (y + 1)) hn (by omega)
  rw [e3] at s1
  have n2 := ny_246 (y := (y + 2)) (by omega)
  exact pair_of (a := 1) (b := 354) (c := 355) (by omega) (by omega) (by omega) (by decide)
theorem p_leaf378 {y : Int} (hp : leapB (y - 1) = true) (hl : leapB y = false) (hn : leapB (y + 1) = false) (hm : leapB (y + 2) = true) (hw : dd y % 7 = 1) (h0 : 6888 ≤ fp y) (h1 : fp y < 9539) : Pair (ny y % 7) (ny (y + 1) - ny y) (ny (y + 2) - ny (y + 1)) := by
  have e1 : y + 1 - 1 = y := by omega
  have e2 : y + 2 - 1 = y + 1 := by omega
  have e3 : y + 1 + 1 = y + 2 := by omega
  have n0 := ny_1b (y := y) (by omega) (by omega)
  have s0 := dd_a (y := y) hl (by omega)
  have n1 := ny_35 (y := (y + 1)) (by omega)
  have s1 := dd_b (y := (y + 1)) hn (by omega)
  rw [e3] at s1
  have n2 := ny_35 (y := (y + 2)) (by omega)
  exact pair_of (a := 1) (b := 354) (c := 355) (by omega) (by omega) (by omega) (by decide)
theorem p_leaf379 {y : Int} (hp : leapB (y - 1) = true) (hl : leapB y = false) (hn : leapB (y + 1) = false) (hm : leapB (y + 2) = true) (hw : dd y % 7 = 1) (h0 : 9539 ≤ fp y) (h1 : fp y < 13753) : Pair (ny y % 7) (ny (y + 1) - ny y) (ny (y + 2) - ny (y + 1)) := by
  have e1 : y + 1 - 1 = y := by omega
  have e2 : y + 2 - 1 = y + 1 := by omega
  have e3 : y + 1 + 1 = y + 2 := by omega
  have n0 := ny_1b (y := y) (by omega) (by omega)
  have s0 := dd_a (y := y) hl (by omega)
  have n1 := ny_35 (y := (y + 1)) (by omega)
  have s1 := dd_b (y := (y + 1)) hn (by omega)
  rw [e3] at s1
  have n2 := ny_35 (y := (y + 2)) (by omega)
  exact pair_of (a := 1) (b := 354) (c := 355) (by omega) (by omega) (by omega) (by decide)
theorem p_leaf380 {y : Int} (hp : leapB (y - 1) = true) (hl : leapB y = false) (hn : leapB (y + 1) = false) (hm : leapB (y + 2) = true) (hw : dd y % 7 = 1) (h0 : 13753 ≤ fp y) (h1 : fp y < 16404) : Pair (ny y % 7) (ny (y + 1) - ny y) (ny (y + 2) - ny (y + 1)) := by
  have e1 : y + 1 - 1 = y := by omega
  have e2 : y + 2 - 1 = y + 1 := by omega
  have e3 : y + 1 + 1 = y + 2 := by omega
  have n0 := ny_1b (y := y) (by omega) (by omega)
  have s0 := dd_a (y := y) hl (by omega)
  have n1 := ny_35 (y := (y + 1)) (by omega)
  have s1 := dd_b (y := (y + 1)) hn (by omega)
  rw [e3] at s1
  have n2 := ny_35 (y := (y + 2)) (by omega)
  exact pair_of (a := 1) (b := 354) (c := 355) (by omega) (by omega) (by omega) (by decide)
theorem p_leaf381 {y : Int} (hp : leapB (y - 1) = true) (hl : leapB y = false) (hn : leapB (y + 1) = false) (hm : leapB (y + 2) = true) (hw : dd y % 7 = 1) (h0 : 16404 ≤ fp y) (h1 : fp y < 19055) : Pair (ny y % 7) (ny (y + 1) - ny y) (ny (y + 2) - ny (y + 1)) := by
  have e1 : y + 1 - 1 = y := by omega
  have e2 : y + 2 - 1 = y + 1 := by omega
  have e3 : y + 1 + 1 = y + 2 := by omega
  have n0 := ny_1a (y := y) (by omega) (by omega) hl
  have s0 := dd_b (y := y) hl (by omega)
  have n1 := ny_246 (y := (y + 1)) (by omega)
  have s1 := dd_a (y := (y + 1)) hn (by omega)
  rw [e3] at s1
  have n2 := ny_35 (y := (y + 2)) (by omega)
  exact pair_of (a := 3) (b := 354) (c := 353) (by omega) (by omega) (by omega) (by decide)
theorem p_leaf382 {y : Int} (hp : leapB (y - 1) = true) (hl : leapB y = false) (hn : leapB (y + 1) = false) (hm : leapB (y + 2) = true) (hw : dd y % 7 = 1) (h0 : 19055 ≤ fp y) (h1 : fp y < 23269) : Pair (ny y % 7) (ny (y + 1) - ny y) (ny (y + 2) - ny (y + 1)) := by
  have e1 : y + 1 - 1 = y := by omega
  have e2 : y + 2 - 1 = y + 1 := by omega
  have e3 : y + 1 + 1 = y + 2 := by omega
  have n0 := ny_1a (y := y) (by omega) (by omega) hl
  have s0 := dd_b (y := y) hl (by omega)
  have n1 := ny_246 (y := (y + 1)) (by omega)
  have s1 := dd_a (y := (y + 1)) hn (by omega)
  rw [e3] at s1
  have n2 := ny_35 (y := (y + 2)) (by omega)
  exact pair_of (a := 3) (b := 354) (c := 353) (by omega) (by omega) (by omega) (by decide)
theorem p_leaf383 {y : Int} (hp : leapB (y - 1) = true) (hl : leapB y = false) (hn : leapB (y + 1) = false) (hm : leapB (y + 2) = true) (hw : dd y % 7 = 1) (h0 : 23269 ≤ fp y) (h1 : fp y < 23292) : Pair (ny y % 7) (ny (y + 1) - ny y) (ny (y + 2) - ny (y + 1)) := by
  have e1 : y + 1 - 1 = y := by omega
  have e2 : y + 2 - 1 = y + 1 := by omega
  have e3 : y + 1 + 1 = y + 2 := by omega
  have n0 := ny_1a (y := y) (by omega) (by omega) hl
  have s0 := dd_b (y := y) hl (by omega)
  have n1 := ny_246 (y := (y + 1)) (by omega)
  have s1 := dd_a (y := (y + 1)) hn (by omega)
  rw [e3] at s1
  have n2 := ny_35 (y := (y + 2)) (by omega)
  exact pair_of (a := 3) (b := 354) (c := 353) (by omega) (by omega) (by omega) (by decide)
theorem p_leaf384 {y : Int} (hp : leapB (y - 1) = true) (hl : leapB y = false) (hn : leapB (y + 1) = false) (hm : leapB (y + 2) = true) (hw : dd y % 7 = 1) (h0 : 23292 ≤ fp y) (h1 : fp y < 25920) : Pair (ny y % 7) (ny (y + 1) - ny y) (ny (y + 2) - ny (y + 1)) := by
  have e1 : y + 1 - 1 = y := by omega
  have e2 : y + 2 - 1 = y + 1 := by omega
  have e3 : y + 1 + 1 = y + 2 := by omega
  have n0 := ny_1a (y := y) (by omega) (by omega) hl
  have s0 := dd_b (y := y) hl (by omega)
  have n1 := ny_246 (y := (y + 1)) (by omega)
  have s1 := dd_a (y := (y + 1)) hn (by omega)
  rw [e3] at s1
  have n2 := ny_35 (y := (y + 2)) (by omega)
  exact pair_of (a := 3) (b := 354) (c := 353) (by omega) (by omega) (by omega) (by decide)
theorem p_leaf385 {y : Int} (hp : leapB (y - 1) = true) (hl : leapB y = false) (hn : leapB (y + 1) = false) (hm : leapB (y + 2) = true) (hw : dd y % 7 = 2) (h0 : 0 ≤ fp y) (h1 : fp y < 2651) : Pair (ny y % 7) (ny (y + 1) - ny y) (ny (y + 2) - ny (y + 1)) := by
  have e1 : y + 1 - 1 = y := by omega
  have e2 : y + 2 - 1 = y + 1 := by omega
  have e3 : y + 1 + 1 = y + 2 := by omega
  have n0 := ny_246 (y := y) (by omega)
  have s0 := dd_a (y := y) hl (by omega)
  have n1 := ny_246 (y := (y + 1)) (by omega)
  have s1 := dd_a (y := (y + 1)) hn (by omega)
  rw [e3] at s1
  have n2 := ny_35 (y := (y + 2)) (by omega)
  exact pair_of (a := 3) (b := 354) (c := 353) (by omega) (by omega) (by omega) (by decide)
theorem p_leaf386 {y : Int} (hp : leapB (y - 1) = true) (hl : leapB y = false) (hn : leapB (y + 1) = false) (hm : leapB (y + 2) = true) (hw : dd y % 7 = 2) (h0 : 2651 ≤ fp y) (h1 : fp y < 4237) : Pair (ny y % 7) (ny (y + 1) - ny y) (ny (y + 2) - ny (y + 1)) := by
  have e1 : y + 1 - 1 = y := by omega
  have e2 : y + 2 - 1 = y + 1 := by omega
  have e3 : y + 1 + 1 = y + 2 := by omega
  have n0 := ny_246 (y := y) (by omega)
  have s0 := dd_a (y := y) hl (by omega)
  have n1 := ny_246 (y := (y + 1)) (by omega)
  have s1 := dd_a (y := (y + 1)) hn (by omega)
  rw [e3] at s1
  have n2 := ny_35 (y := (y + 2)) (by omega)
  exact pair_of (a := 3) (b := 354) (c := 353) (by omega) (by omega) (by omega) (by decide)
theorem p_leaf387 {y : Int} (hp : leapB (y - 1) = true) (hl : leapB y = false) (hn : leapB (y + 1) = false) (hm : leapB (y + 2) = true) (hw : dd y % 7 = 2) (h0 : 4237 ≤ fp y) (h1 : fp y < 6888) : Pair (ny y % 7) (ny (y + 1) - ny y) (ny (y + 2) - ny (y + 1)) := by
  have e1 : y + 1 - 1 = y := by omega
  have e2 : y + 2 - 1 = y + 1 := by omega
  have e3 : y + 1 + 1 = y + 2 := by omega
  have n0 := ny_246 (y := y) (by omega)
  have s0 := dd_a (y := y) hl (by omega)
  have n1 := ny_246 (y := (y + 1)) (by omega)
  have s1 := dd_a (y := (y + 1)) hn (by omega)
  rw [e3] at s1
  have n2 := ny_35 (y := (y + 2)) (by omega)
  exact pair_of (a := 3) (b := 354) (c := 353) (by omega) (by omega) (by omega) (by decide)
theorem p_leaf388 {y : Int} (hp : leapB (y - 1) = true) (hl : leapB y = false) (hn : leapB (y + 1) = false) (hm : leapB (y + 2) = true) (hw : dd y % 7 = 2) (h0 : 6888 ≤ fp y) (h1 : fp y < 9539) : Pair (ny y % 7) (ny (y + 1) - ny y) (ny (y + 2) - ny (y + 1)) := by
  have e1 : y + 1 - 1 = y := by omega
  have e2 : y + 2 - 1 = y + 1 := by omega
  have e3 : y + 1 + 1 = y + 2 := by omega
  have n0 := ny_246 (y := y) (by omega)
  have s0 := dd_a (y := y) hl (by omega)
  have n1 := ny_246 (y := (y + 1)) (by omega)
  have s1 := dd_b (y := (y + 1)) hn (by omega)
  rw [e3] at s1
  have n2 := ny_246 (y := (y + 2)) (by omega)
  exact pair_of (a := 3) (b := 354) (c := 355) (by omega) (by omega) (by omega) (by decide)
theorem p_leaf389 {y : Int} (hp : leapB (y - 1) = true) (hl : leapB y = false) (hn : leapB (y + 1) = false) (hm : leapB (y + 2) = true) (hw : dd y % 7 = 2) (h0 : 9539 ≤ fp y) (h1 : fp y < 13753) : Pair (ny y % 7) (ny (y + 1) - ny y) (ny (y + 2) - ny (y + 1)) := by
  have e1 : y + 1 - 1 = y := by omega
  have e2 : y + 2 - 1 = y + 1 := by omega
  have e3 : y + 1 + 1 = y + 2 := by omega
  have n0 := ny_246 (y := y) (by omega)
  have s0 := dd_a (y := y) hl (by omega)
  have n1 := ny_246 (y := (y + 1)) (by omega)
  have s1 := dd_b (y := (y + 1)) hn (by omega)
  rw [e3] at s1
  have n2 := ny_246 (y := (y + 2)) (by omega)
  exact pair_of (a := 3) (b := 354) (c := 355) (by omega) (by omega) (by omega) (by decide)
theorem p_leaf390 {y : Int} (hp : leapB (y - 1) = true) (hl : leapB y = false) (hn : leapB (y + 1) = false) (hm : leapB (y + 2) = true) (hw : dd y % 7 = 2) (h0 : 13753 ≤ fp y) (h1 : fp y < 16404) : Pair (ny y % 7) (ny (y + 1) - ny y) (ny (y + 2) - ny (y + 1)) := by
  have e1 : y + 1 - 1 = y := by omega
  have e2 : y + 2 - 1 = y + 1 := by omega
  have e3 : y + 1 + 1 = y + 2 := by omega
  have n0 := ny_246 (y := y) (by omega)
  have s0 := dd_a (y := y) hl (by omega)
  have n1 := ny_246 (y := (y + 1)) (by omega)
  have s1 := dd_b (y := (y + 1)) hn (by omega)
  rw [e3] at s1
  have n2 := ny_246 (y := (y + 2)) (by omega)
  exact pair_of (a := 3) (b := 354) (c := 355) (by omega) (by omega) (by omega) (by decide)
theorem p_leaf391 {y : Int} (hp : leapB (y - 1) = true) (hl : leapB y = false) (hn : leapB (y + 1) = false) (hm : leapB (y + 2) = true) (hw : dd y % 7 = 2) (h0 : 16404 ≤ fp y) (h1 : fp y < 19055) : Pair (ny y % 7) (ny (y + 1) - ny y) (ny (y + 2) - ny (y + 1)) := by
  have e1 : y + 1 - 1 = y := by omega
  have e2 : y + 2 - 1 = y + 1 := by omega
  have e3 : y + 1 + 1 = y + 2 := by omega
  have n0 := ny_246 (y := y) (by omega)
  have s0 := dd_b (y := y) hl (by omega)
  have n1 := ny_0c (y := (y + 1)) (by omega) (by rw [e1]; exact hl)
  have s1 := dd_a (y := (y + 1)) hn (by omega)
  rw [e3] at s1
  have n2 := ny_246 (y := (y + 2)) (by omega)
  exact pair_of (a := 3) (b := 354) (c := 355) (by omega) (by omega) (by omega) (by decide)
theorem p_leaf392 {y : Int} (hp : leapB (y - 1) = true) (hl : leapB y = false) (hn : leapB (y + 1) = false) (hm : leapB (y + 2) = true) (hw : dd y % 7 = 2) (h0 : 19055 ≤ fp y) (h1 : fp y < 23269) : Pair (ny y % 7) (ny (y + 1) - ny y) (ny (y + 2) - ny (y + 1)) := by
  have e1 : y + 1 - 1 = y := by omega
  have e2 : y + 2 - 1 = y + 1 := by omega
  have e3 : y + 1 + 1 = y + 2 := by omega
  have n0 := ny_246 (y := y) (by omega)
  have s0 := dd_b (y := y) hl (by omega)
  have n1 := ny_0c (y := (y + 1)) (by omega) (by rw [e1]; exact hl)
  have s1 := dd_a (y := (y + 1)) hn (by omega)
  rw [e3] at s1
  have n2 := ny_246 (y := (y + 2)) (by omega)
  exact pair_of (a := 3) (b := 354) (c := 355) (by omega) (by omega) (by omega) (by decide)
theorem p_leaf393 {y : Int} (hp : leapB (y - 1) = true) (hl : leapB y = false) (hn : leapB (y + 1) = false) (hm : leapB (y + 2) = true) (hw : dd y % 7 = 2) (h0 : 23269 ≤ fp y) (h1 : fp y < 23292) : Pair (ny y % 7) (ny (y + 1) - ny y) (ny (y + 2) - ny (y + 1)) := by
  have e1 : y + 1 - 1 = y := by omega
  have e2 : y + 2 - 1 = y + 1 := by omega
  have e3 : y + 1 + 1 = y + 2 := by omega
  have n0 := ny_246 (y := y) (by omega)
  have s0 := dd_b (y := y) hl (by omega)
  have n1 := ny_0c (y := (y + 1)) (by omega) (by rw [e1]; exact hl)
  have s1 := dd_a (y := (y + 1)) hn (by omega)
  rw [e3] at s1
  have n2 := ny_246 (y := (y + 2)) (by omega)
  exact pair_of (a := 3) (b := 354) (c := 355) (by omega) (by omega) (by omega) (by decide)
theorem p_leaf394 {y : Int} (hp : leapB (y - 1) = true) (hl : leapB y = false) (hn : leapB (y + 1) = false) (hm : leapB (y + 2) = true) (hw : dd y % 7 = 2) (h0 : 23292 ≤ fp y) (h1 : fp y < 25920) : Pair (ny y % 7) (ny (y + 1) - ny y) (ny (y + 2) - ny (y + 1)) := by
  have e1 : y + 1 - 1 = y := by omega
  have e2 : y + 2 - 1 = y + 1 := by omega
  have e3 : y + 1 + 1 = y + 2 := by omega
  have n0 := ny_246 (y := y) (by omega)
  have s0 := dd_b (y := y) hl (by omega)
  have n1 := ny_0c (y := (y + 1)) (by omega) (by rw [e1]; exact hl)
  have s1 := dd_a (y := (y + 1)) hn (by omega)
  rw [e3] at s1
  have n2 := ny_246 (y := (y + 2)) (by omega)
  exact pair_of (a := 3) (b := 354) (c := 355) (by omega) (by omega) (by omega) (by decide)
theorem p_leaf395 {y : Int} (hp : leapB (y - 1) = true) (hl : leapB y = false) (hn : leapB (y + 1) = false) (hm : leapB (y + 2) = true) (hw : dd y % 7 = 3) (h0 : 0 ≤ fp y) (h1 : fp y < 2651) : Pair (ny y % 7) (ny (y + 1) - ny y) (ny (y + 2) - ny (y + 1)) := by
  have e1 : y + 1 - 1 = y := by omega
  have e2 : y + 2 - 1 = y + 1 := by omega
  have e3 : y + 1 + 1 = y + 2 := by omega
  have n0 := ny_35 (y := y) (by omega)
  have s0 := dd_a (y := y) hl (by omega)
  have n1 := ny_0c (y := (y + 1)) (by omega) (by rw [e1]; exact hl)
  have s1 := dd_a (y := (y + 1)) hn (by omega)
  rw [e3] at s1
  have n2 := ny_246 (y := (y + 2)) (by omega)
  exact pair_of (a := 3) (b := 354) (c := 355) (by omega) (by omega) (by omega) (by decide)
theorem p_leaf396 {y : Int} (hp : leapB (y - 1) = true) (hl : leapB y = false) (hn : leapB (y + 1) = false) (hm : leapB (y + 2) = true) (hw : dd y % 7 = 3) (h0 : 2651 ≤ fp y) (h1 : fp y < 4237) : Pair (ny y % 7) (ny (y + 1) - ny y) (ny (y + 2) - ny (y + 1)) := by
  have e1 : y + 1 - 1 = y := by omega
  have e2 : y + 2 - 1 = y + 1 := by omega
  have e3 : y + 1 + 1 = y + 2 := by omega
  have n0 := ny_35 (y := y) (by omega)
  have s0 := dd_a (y := y) hl (by omega)
  have n1 := ny_0c (y := (y + 1)) (by omega) (by rw [e1]; exact hl)
  have s1 := dd_a (y := (y + 1)) hn (by omega)
  rw [e3] at s1
  have n2 := ny_246 (y := (y + 2)) (by omega)
  exact pair_of (a := 3) (b := 354) (c := 355) (by omega) (by omega) (by omega) (by decide)
theorem p_leaf397 {y : Int} (hp : leapB (y - 1) = true) (hl : leapB y = false) (hn : leapB (y + 1) = false) (hm : leapB (y + 2) = true) (hw : dd y % 7 = 3) (h0 : 4237 ≤ fp y) (h1 : fp y < 6888) : Pair (ny y % 7) (ny (y + 1) - ny y) (ny (y + 2) - ny (y + 1)) := by
  have e1 : y + 1 - 1 = y := by omega
  have e2 : y + 2 - 1 = y + 1 := by omega
  have e3 : y + 1 + 1 = y + 2 := by omega
  have n0 := ny_35 (y := y) (by omega)
  have s0 := dd_a (y := y) hl (by omega)
  have n1 := ny_0c (y := (y + 1)) (by omega) (by rw [e1]; exact hl)
  have s1 := dd_a (y := (y + 1)) hn (by omega)
  rw [e3] at s1
  have n2 := ny_246 (y := (y + 2)) (by omega)
  exact pair_of (a := 3) (b := 354) (c := 355) (by omega) (by omega) (by omega) (by decide)
theorem p_leaf398 {y : Int} (hp : leapB (y - 1) = true) (hl : leapB y = false) (hn : leapB (y + 1) = false) (hm : leapB (y + 2) = true) (hw : dd y % 7 = 3) (h0 : 6888 ≤ fp y) (h1 : fp y < 9539) : Pair (ny y % 7) (ny (y + 1) - ny y) (ny (y + 2) - ny (y + 1)) := by
  have e1 : y + 1 - 1 = y := by omega
  have e2 : y + 2 - 1 = y + 1 := by omega
  have e3 : y + 1 + 1 = y + 2 := by omega
  have n0 := ny_35 (y := y) (by omega)
  have s0 := dd_a (y := y) hl (by omega)
  have n1 := ny_0c (y := (y + 1)) (by omega) (by rw [e1]; exact hl)
  have s1 := dd_b (y := (y + 1)) hn (by omega)
  rw [e3] at s1
  have n2 := ny_35 (y := (y + 2)) (by omega)
  exact pair_of (a := 3) (b := 354) (c := 355) (by omega) (by omega) (by omega) (by decide)
theorem p_leaf399 {y : Int} (hp : leapB (y - 1) = true) (hl : leapB y = false) (hn : leapB (y + 1) = false) (hm : leapB (y + 2) = true) (hw : dd y % 7 = 3) (h0 : 9539 ≤ fp y) (h1 : fp y < 13753) : Pair (ny y % 7) (ny (y + 1) - ny y) (ny (y + 2) - ny (y + 1)) := by
  have e1 : y + 1 - 1 = y := by omega
  have e2 : y + 2 - 1 = y + 1 := by omega
  have e3 : y + 1 + 1 = y + 2 := by omega
  have n0 := ny_35 (y := y) (by omega)
  have s0 := dd_a (y := y) hl (by omega)
  have n1 := ny_0c (y := (y + 1)) (by omega) (by rw [e1]; exact hl)
  have s1 := dd_b (y := (y + 1)) hn (by omega)
  rw [e3] at s1
  have n2 := ny_35 (y := (y + 2)) (by omega)
  exact pair_of (a := 3) (b := 354) (c := 355) (by omega) (by omega) (by omega) (by decide)
theorem p_leaf400 {y : Int} (hp : leapB (y - 1) = true) (hl : leapB y = false) (hn : leapB (y + 1) = false) (hm : leapB (y + 2) = true) (hw : dd y % 7 = 3) (h0 : 13753 ≤ fp y) (h1 : fp y < 16404) : Pair (ny y % 7) (ny (y + 1) - ny y) (ny (y + 2) - ny (y + 1)) := by
  have e1 : y + 1 - 1 = y := by omega
  have e2 : y + 2 - 1 = y + 1 := by omega
  have e3 : y + 1 + 1 = y + 2 := by omega
  have n0 := ny_35 (y := y) (by omega)
  have s0 := dd_a (y := y) hl (by omega)
  have n1 := ny_0c (y := (y + 1)) (by omega) (by rw [e1]; exact hl)
  have s1 := dd_b (y := (y + 1)) hn (by omega)
  rw [e3] at s1
  have n2 := ny_35 (y := (y + 2)) (by omega)
  exact pair_of (a := 3) (b := 354) (c := 355) (by omega) (by omega) (by omega) (by decide)
theorem p_leaf401 {y : Int} (hp : leapB (y - 1) = true) (hl : leapB y = false) (hn : leapB (y + 1) = false) (hm : leapB (y + 2) = true) (hw : dd y % 7 = 3) (h0 : 16404 ≤ fp y) (h1 : fp y < 19055) : Pair (ny y % 7) (ny (y + 1) - ny y) (ny (y + 2) - ny (y + 1)) := by
  have e1 : y + 1 - 1 = y := by omega
  have e2 : y + 2 - 1 = y + 1 := by omega
  have e3 : y + 1 + 1 = y + 2 := by omega
  have n0 := ny_35 (y := y) (by omega)
  have s0 := dd_b (y := y) hl (by omega)
  have n1 := ny_1b (y := (y + 1)) (by omega) (by omega)
  have s1 := dd_a (y := (y + 1)) hn (by omega)
  rw [e3] at s1
  have n2 := ny_35 (y := (y + 2)) (by omega)
  exact pair_of (a := 3) (b := 355) (c := 354) (by omega) (by omega) (by omega) (by decide)
theorem p_leaf402 {y : Int} (hp : leapB (y - 1) = true) (hl : leapB y = false) (hn : leapB (y + 1) = false) (hm : leapB (y + 2) = true) (hw : dd y % 7 = 3) (h0 : 19055 ≤ fp y) (h1 : fp y < 23269) : Pair (ny y % 7) (ny (y + 1) - ny y) (ny (y + 2) - ny (y + 1)) := by
  have e1 : y + 1 - 1 = y := by omega
  have e2 : y + 2 - 1 = y + 1 := by omega
  have e3 : y + 1 + 1 = y + 2 := by omega
  have n0 := ny_35 (y := y) (by omega)
  have s0 := dd_b (y := y) hl (by omega)
  have n1 := ny_1b (y := (y + 1)) (by omega) (by omega)
  have s1 := dd_a (y := (y + 1)) hn (by omega)
  rw [e3] at s1
  have n2 := ny_35 (y := (y + 2)) (by omega)
  exact pair_of (a := 3) (b := 355) (c := 354) (by omega) (by omega) (by omega) (by decide)
theorem p_leaf403 {y : Int} (hp : leapB (y - 1) = true) (hl : leapB y = false) (hn : leapB (y + 1) = false) (hm : leapB (y + 2) = true) (hw : dd y % 7 = 3) (h0 : 23269 ≤ fp y) (h1 : fp y < 23292) : Pair (ny y % 7) (ny (y + 1) - ny y) (ny (y + 2) - ny (y + 1)) := by
  have e1 : y + 1 - 1 = y := by omega
  have e2 : y + 2 - 1 = y + 1 := by omega
  have e3 : y + 1 + 1 = y + 2 := by omega
  have n0 := ny_35 (y := y) (by omega)
  have s0 := dd_b (y := y) hl (by omega)
  have n1 := ny_1b (y := (y + 1)) (by omega) (by omega)
  have s1 := dd_a (y := (y + 1)) hn (by omega)
  rw [e3] at s1
  have n2 := ny_35 (y := (y + 2)) (by omega)
  exact pair_of (a := 3) (b := 355) (c := 354) (by omega) (by omega) (by omega) (by decide)
theorem p_leaf404 {y : Int} (hp : leapB (y - 1) = true) (hl : leapB y = false) (hn : leapB (y + 1) = false) (hm : leapB (y + 2) = true) (hw : dd y % 7 = 3) (h0 : 23292 ≤ fp y) (h1 : fp y < 25920) : Pair (ny y % 7) (ny (y + 1) - ny y) (ny (y + 2) - ny (y + 1)) := by
  have e1 : y + 1 - 1 = y := by omega
  have e2 : y + 2 - 1 = y + 1 := by omega
  have e3 : y + 1 + 1 = y + 2 := by omega
  have n0 := ny_35 (y := y) (by omega)
  have s0 := dd_b (y := y) hl (by omega)
  have n1 := ny_1b (y := (y + 1)) (by omega) (by omega)
  have s1 := dd_a (y := (y + 1)) hn (by omega)
  rw [e3] at s1
  have n2 := ny_35 (y := (y + 2)) (by omega)
  exact pair_of (a := 3) (b := 355) (c := 354) (by omega) (by omega) (by omega) (by decide)
theorem p_leaf405 {y : Int} (hp : leapB (y - 1) = true) (hl : leapB y = false) (hn : leapB (y + 1) = false) (hm : leapB (y + 2) = true) (hw : dd y % 7 = 4) (h0 : 0 ≤ fp y) (h1 : fp y < 2651) : Pair (ny y % 7) (ny (y + 1) - ny y) (ny (y + 2) - ny (y + 1)) := by
  have e1 : y + 1 - 1 = y := by omega
  have e2 : y + 2 - 1 = y + 1 := by omega
  have e3 : y + 1 + 1 = y + 2 := by omega
  have n0 := ny_246 (y := y) (by omega)
  have s0 := dd_a (y := y) hl (by omega)
  have n1 := ny_1b (y := (y + 1)) (by omega) (by omega)
  have s1 := dd_a (y := (y + 1)) hn (by omega)
  rw [e3] at s1
  have n2 := ny_35 (y := (y + 2)) (by omega)
  exact pair_of (a := 5) (b := 353) (c := 354) (by omega) (by omega) (by omega) (by decide)
theorem p_leaf406 {y : Int} (hp : leapB (y - 1) = true) (hl : leapB y = false) (hn : leapB (y + 1) = false) (hm : leapB (y + 2) = true) (hw : dd y % 7 = 4) (h0 : 2651 ≤ fp y) (h1 : fp y < 4237) : Pair (ny y % 7) (ny (y + 1) - ny y) (ny (y + 2) - ny (y + 1)) := by
  have e1 : y + 1 - 1 = y := by omega
  have e2 : y + 2 - 1 = y + 1 := by omega
  have e3 : y + 1 + 1 = y + 2 := by omega
  have n0 := ny_246 (y := y) (by omega)
  have s0 := dd_a (y := y) hl (by omega)
  have n1 := ny_1b (y := (y + 1)) (by omega) (by omega)
  have s1 := dd_a (y := (y + 1)) hn (by omega)
  rw [e3] at s1
  have n2 := ny_35 (y := (y + 2)) (by omega)
  exact pair_of (a := 5) (b := 353) (c := 354) (by omega) (by omega) (by omega) (by decide)
theorem p_leaf407 {y : Int} (hp : leapB (y - 1) = true) (hl : leapB y = false) (hn : leapB (y + 1) = false) (hm : leapB (y + 2) = true) (hw : dd y % 7 = 4) (h0 : 4237 ≤ fp y) (h1 : fp y < 6888) : Pair (ny y % 7) (ny (y + 1) - ny y) (ny (y + 2) - ny (y + 1)) := by
  have e1 : y + 1 - 1 = y := by omega
  have e2 : y + 2 - 1 = y + 1 := by omega
  have e3 : y + 1 + 1 = y + 2 := by omega
  have n0 := ny_246 (y := y) (by omega)
  have s0 := dd_a (y := y) hl (by omega)
  have n1 := ny_1b (y := (y + 1)) (by omega) (by omega)
  have s1 := dd_a (y := (y + 1)) hn (by omega)
  rw [e3] at s1
  have n2 := ny_35 (y := (y + 2)) (by omega)
  exact pair_of (a := 5) (b := 353) (c := 354) (by omega) (by omega) (by omega) (by decide)
theorem p_leaf408 {y : Int} (hp : leapB (y - 1) = true) (hl : leapB y = false) (hn : leapB (y + 1) = false) (hm : leapB (y + 2) = true) (hw : dd y % 7 = 4) (h0 : 6888 ≤ fp y) (h1 : fp y < 9539) : Pair (ny y % 7) (ny (y + 1) - ny y) (ny (y + 2) - ny (y + 1)) := by
  have e1 : y + 1 - 1 = y := by omega
  have e2 : y + 2 - 1 = y + 1 := by omega
  have e3 : y + 1 + 1 = y + 2 := by omega
  have n0 := ny_246 (y := y) (by omega)
  have s0 := dd_a (y := y) hl (by omega)
  have n1 := ny_1a (y := (y + 1)) (by omega) (by omega) hn
  have s1 := dd_b (y := (y + 1)) hn (by omega)
  rw [e3] at s1
  have n2 := ny_246 (y := (y + 2)) (by omega)
  exact pair_of (a := 5) (b := 355) (c := 354) (by omega) (by omega) (by omega) (by decide)
theorem p_leaf409 {y : Int} (hp : leapB (y - 1) = true) (hl : leapB y = false) (hn : leapB (y + 1) = false) (hm : leapB (y + 2) = true) (hw : dd y % 7 = 4) (h0 : 9539 ≤ fp y) (h1 : fp y < 13753) : Pair (ny y % 7) (ny (y + 1) - ny y) (ny (y + 2) - ny (y + 1)) := by
  have e1 : y + 1 - 1 = y := by omega
  have e2 : y + 2 - 1 = y + 1 := by omega
  have e3 : y + 1 + 1 = y + 2 := by omega
  have n0 := ny_246 (y := y) (by omega)
  have s0 := dd_a (y := y) hl (by omega)
  have n1 := ny_1a (y := (y + 1)) (by omega) (by omega) hn
  have s1 := dd_b (y := (y + 1)) hn (by omega)
  rw [e3] at s1
  have n2 := ny_246 (y := (y + 2)) (by omega)
  exact pair_of (a := 5) (b := 355) (c := 354) (by omega) (by omega) (by omega) (by decide)
theorem p_leaf410 {y : Int} (hp : leapB (y - 1) = true) (hl : leapB y = false) (hn : leapB (y + 1) = false) (hm : leapB (y + 2) = true) (hw : dd y % 7 = 4) (h0 : 13753 ≤ fp y) (h1 : fp y < 16404) : Pair (ny y % 7) (ny (y + 1) - ny y) (ny (y + 2) - ny (y + 1)) := by
  have e1 : y + 1 - 1 = y := by omega
  have e2 : y + 2 - 1 = y + 1 := by omega
  have e3 : y + 1 + 1 = y + 2 := by omega
  have n0 := ny_246 (y := y) (by omega)
  have s0 := dd_a (y := y) hl (by omega)
  have n1 := ny_1a (y := (y + 1)) (by omega) (by omega) hn
  have s1 := dd_b (y := (y + 1)) hn (by omega)
  rw [e3] at s1
  have n2 := ny_246 (y := (y + 2)) (by omega)
  exact pair_of (a := 5) (b := 355) (c := 354) (by omega) (by omega) (by omega) (by decide)
theorem p_leaf411 {y : Int} (hp : leapB (y - 1) = true) (hl : leapB y = false) (hn : leapB (y + 1) = false) (hm : leapB (y + 2) = true) (hw : dd y % 7 = 4) (h0 : 16404 ≤ fp y) (h1 : fp y < 19055) : Pair (ny y % 7) (ny (y + 1) - ny y) (ny (y + 2) - ny (y + 1)) := by
  have e1 : y + 1 - 1 = y := by omega
  have e2 : y + 2 - 1 = y + 1 := by omega
  have e3 : y + 1 + 1 = y + 2 := by omega
  have n0 := ny_246 (y := y) (by omega)
  have s0 := dd_b (y := y) hl (by omega)
  have n1 := ny_246 (y := (y + 1)) (by omega)
  have s1 := dd_a (y := (y + 1)) hn (by omega)
  rw [e3] at s1
  have n2 := ny_246 (y := (y + 2)) (by omega)
  exact pair_of (a := 5) (b := 355) (c := 354) (by omega) (by omega) (by omega) (by decide)
theorem p_leaf412 {y : Int} (hp : leapB (y - 1) = true) (hl : leapB y = false) (hn : leapB (y + 1) = false) (hm : leapB (y + 2) = true) (hw : dd y % 7 = 4) (h0 : 19055 ≤ fp y) (h1 : fp y < 23269) : Pair (ny y % 7) (ny (y + 1) - ny y) (ny (y + 2) - ny (y + 1)) := by
  have e1 : y + 1 - 1 = y := by omega
  have e2 : y + 2 - 1 = y + 1 := by omega
  have e3 : y + 1 + 1 = y + 2 := by omega
  have n0 := ny_246 (y := y) (by omega)
  have s0 := dd_b (y := y) hl (by omega)
  have n1 := ny_246 (y := (y + 1)) (by omega)
  have s1 := dd_a (y := (y + 1)) hn (by omega)
  rw [e3] at s1
  have n2 := ny_246 (y := (y + 2)) (by omega)
  exact pair_of (a := 5) (b := 355) (c := 354) (by omega) (by omega) (by omega) (by decide)
theorem p_leaf413 {y : Int} (hp : leapB (y - 1) = true) (hl : leapB y = false) (hn : leapB (y + 1) = false) (hm : leapB (y + 2) = true) (hw : dd y % 7 = 4) (h0 : 23269 ≤ fp y) (h1 : fp y < 23292) : Pair (ny y % 7) (ny (y + 1) - ny y) (ny (y + 2) - ny (y + 1)) := by
  have e1 : y + 1 - 1 = y := by omega
  have e2 : y + 2 - 1 = y + 1 := by omega
  have e3 : y + 1 + 1 = y + 2 := by omega
  have n0 := ny_246 (y := y) (by omega)
  have s0 := dd_b (y := y) hl (by omega)
  have n1 := ny_246 (y := (y + 1)) (by omega)
  have s1 := dd_a (y := (y + 1)) hn (by omega)
  rw [e3] at s1
  have n2 := ny_246 (y := (y + 2)) (by omega)
  exact pair_of (a := 5) (b := 355) (c := 354) (by omega) (by omega) (by omega) (by decide)
theorem p_leaf414 {y : Int} (hp : leapB (y - 1) = true) (hl : leapB y = false) (hn : leapB (y + 1) = false) (hm : leapB (y + 2) = true) (hw : dd y % 7 = 4) (h0 : 23292 ≤ fp y) (h1 : fp y < 25920) : Pair (ny y % 7) (ny (y + 1) - ny y) (ny (y + 2) - ny (y + 1)) := by
  have e1 : y + 1 - 1 = y := by omega
  have e2 : y + 2 - 1 = y + 1 := by omega
  have e3 : y + 1 + 1 = y + 2 := by omega
  have n0 := ny_246 (y := y) (by omega)
  have s0 := dd_b (y := y) hl (by omega)
  have n1 := ny_246 (y := (y + 1)) (by omega)
  have s1 := dd_a (y := (y + 1)) hn (by omega)
  rw [e3] at s1
  have n2 := ny_246 (y := (y + 2)) (by omega)
  exact pair_of (a := 5) (b := 355) (c := 354) (by omega) (by omega) (by omega) (by decide)
theorem p_leaf415 {y : Int} (hp : leapB (y - 1) = true) (hl : leapB y = false) (hn : leapB (y + 1) = false) (hm : leapB (y + 2) = true) (hw : dd y % 7 = 5) (h0 : 0 ≤ fp y) (h1 : fp y < 2651) : Pair (ny y % 7) (ny (y + 1) - ny y) (ny (y + 2) - ny (y + 1)) := by
  have e1 : y + 1 - 1 = y := by omega
  have e2 : y + 2 - 1 = y + 1 := by omega
  have e3 : y + 1 + 1 = y + 2 := by omega
  have n0 := ny_35 (y := y) (by omega)
  have s0 := dd_a (y := y) hl (by omega)
  have n1 := ny_246 (y := (y + 1)) (by omega)
  have s1 := dd_a (y := (y + 1)) hn (by omega)
  rw [e3] at s1
  have n2 := ny_246 (y := (y + 2)) (by omega)
  exact pair_of (a := 5) (b := 355) (c := 354) (by omega) (by omega) (by omega) (by decide)
theorem p_leaf416 {y : Int} (hp : leapB (y - 1) = true) (hl : leapB y = false) (hn : leapB (y + 1) = false) (hm : leapB (y + 2) = true) (hw : dd y % 7 = 5) (h0 : 2651 ≤ fp y) (h1 : fp y < 4237) : Pair (ny y % 7) (ny (y + 1) - ny y) (ny (y + 2) - ny (y + 1)) := by
  have e1 : y + 1 - 1 = y := by omega
  have e2 : y + 2 - 1 = y + 1 := by omega
  have e3 : y + 1 + 1 = y + 2 := by omega
  have n0 := ny_35 (y := y) (by omega)
  have s0 := dd_a (y := y) hl (by omega)
  have n1 := ny_246 (y := (y + 1)) (by omega)
  have s1 := dd_a (y := (y + 1)) hn (by omega)
  rw [e3] at s1
  have n2 := ny_246 (y := (y + 2)) (by omega)
  exact pair_of (a := 5) (b := 355) (c := 354) (by omega) (by omega) (by omega) (by decide)
theorem p_leaf417 {y : Int} (hp : leapB (y - 1) = true) (hl : leapB y = false) (hn : leapB (y + 1) = false) (hm : leapB (y + 2) = true) (hw : dd y % 7 = 5) (h0 : 4237 ≤ fp y) (h1 : fp y < 6888) : Pair (ny y % 7) (ny (y + 1) - ny y) (ny (y + 2) - ny (y + 1)) := by
  have e1 : y + 1 - 1 = y := by omega
  have e2 : y + 2 - 1 = y + 1 := by omega
  have e3 : y + 1 + 1 = y + 2 := by omega
  have n0 := ny_35 (y := y) (by omega)
  have s0 := dd_a (y := y) hl (by omega)
  have n1 := ny_246 (y := (y + 1)) (by omega)
  have s1 := dd_a (y := (y + 1)) hn (by omega)
  rw [e3] at s1
  have n2 := ny_246 (y := (y + 2)) (by omega)
  exact pair_of (a := 5) (b := 355) (c := 354) (by omega) (by omega) (by omega) (by decide)
theorem p_leaf418 {y : Int} (hp : leapB (y - 1) = true) (hl : leapB y = false) (hn : leapB (y + 1) = false) (hm : leapB (y + 2) = true) (hw : dd y % 7 = 5) (h0 : 6888 ≤ fp y) (h1 : fp y < 9539) : Pair (ny y % 7) (ny (y + 1) - ny y) (ny (y + 2) - ny (y + 1)) := by
  have e1 : y + 1 - 1 = y := by omega
  have e2 : y + 2 - 1 = y + 1 := by omega
  have e3 : y + 1 + 1 = y + 2 := by omega
  have n0 := ny_35 (y := y) (by omega)
  have s0 := dd_a (y := y) hl (by omega)
  have n1 := ny_246 (y := (y + 1)) (by omega)
  have s1 := dd_b (y := (y + 1)) hn (by omega)
  rw [e3] at s1
  have n2 := ny_0c (y := (y + 2)) (by omega) (by rw [e2]; exact hn)
  exact pair_of (a := 5) (b := 355) (c := 354) (by omega) (by omega) (by omega) (by decide)
theorem p_leaf419 {y : Int} (hp : leapB (y - 1) = true) (hl : leapB y = false) (hn : leapB (y + 1) = false) (hm : leapB (y + 2) = true) (hw : dd y % 7 = 5) (h0 : 9539 ≤ fp y) (h1 : fp y < 13753) : Pair (ny y % 7) (ny (y + 1) - ny y) (ny (y + 2) - ny (y + 1)) := by
  have e1 : y + 1 - 1 = y := by omega
  have e2 : y + 2 - 1 = y + 1 := by omega
  have e3 : y + 1 + 1 = y + 2 := by omega
  have n0 := ny_35 (y := y) (by omega)
  have s0 := dd_a (y := y) hl (by omega)
  have n1 := ny_246 (y := (y + 1)) (by omega)
  have s1 := dd_b (y := (y + 1)) hn (by omega)
  rw [e3] at s1
  have n2 := ny_0c (y := (y + 2)) (by omega) (by rw [e2]; exact hn)
  exact pair_of (a := 5) (b := 355) (c := 354) (by omega) (by omega) (by omega) (by decide)
theorem p_leaf420 {y : Int} (hp : leapB (y - 1) = true) (hl : leapB y = false) (hn : leapB (y + 1) = false) (hm : leapB (y + 2) = true) (hw : dd y % 7 = 5) (h0 : 13753 ≤ fp y) (h1 : fp y < 16404) : Pair (ny y % 7) (ny (y + 1) - ny y) (ny (y + 2) - ny (y + 1)) := by
  have e1 : y + 1 - 1 = y := by omega
  have e2 : y + 2 - 1 = y + 1 := by omega
  have e3 : y + 1 + 1 = y + 2 := by omega
  have n0 := ny_35 (y := y) (by omega)
  have s0 := dd_a (y := y) hl (by omega)
  have n1 := ny_246 (y := (y + 1)) (by omega)
  have s1 := dd_b (y := (y + 1)) hn (by omega)
  rw [e3] at s1
  have n2 := ny_0c (y := (y + 2)) (by omega) (by rw [e2]; exact hn)
  exact pair_of (a := 5) (b := 355) (c := 354) (by omega) (by omega) (by omega) (by decide)
theorem p_leaf421 {y : Int} (hp : leapB (y - 1) = true) (hl : leapB y = false) (hn : leapB (y + 1) = false) (hm : leapB (y + 2) = true) (hw : dd y % 7 = 5) (h0 : 16404 ≤ fp y) (h1 : fp y < 19055) : Pair (ny y % 7) (ny (y + 1) - ny y) (ny (y + 2) - ny (y + 1)) := by
  have e1 : y + 1 - 1 = y := by omega
  have e2 : y + 2 - 1 = y + 1 := by omega
  have e3 : y + 1 + 1 = y + 2 := by omega
  have n0 := ny_35 (y := y) (by omega)
  have s0 := dd_b (y := y) hl (by omega)
  have n1 := ny_35 (y := (y + 1)) (by omega)
  have s1 := dd_a (y := (y + 1)) hn (by omega)
  rw [e3] at s1
  have n2 := ny_0c (y := (y + 2)) (by omega) (by rw [e2]; exact hn)
  exact pair_of (a := 5) (b := 355) (c := 354) (by omega) (by omega) (by omega) (by decide)
theorem p_leaf422 {y : Int} (hp : leapB (y - 1) = true) (hl : leapB y = false) (hn : leapB (y + 1) = false) (hm : leapB (y + 2) = true) (hw : dd y % 7 = 5) (h0 : 19055 ≤ fp y) (h1 : fp y < 23269) : Pair (ny y % 7) (ny (y + 1) - ny y) (ny (y + 2) - ny (y + 1)) := by
  have e1 : y + 1 - 1 = y := by omega
  have e2 : y + 2 - 1 = y + 1 := by omega
  have e3 : y + 1 + 1 = y + 2 := by omega
  have n0 := ny_35 (y := y) (by omega)
  have s0 := dd_b (y := y) hl (by omega)
  have n1 := ny_35 (y := (y + 1)) (by omega)
  have s1 := dd_a (y := (y + 1)) hn (by omega)
  rw [e3] at s1
  have n2 := ny_0c (y := (y + 2)) (by omega) (by rw [e2]; exact hn)
  exact pair_of (a := 5) (b := 355) (c := 354) (by omega) (by omega) (by omega) (by decide)
theorem p_leaf423 {y : Int} (hp : leapB (y - 1) = true) (hl : leapB y = false) (hn : leapB (y + 1) = false) (hm : leapB (y + 2) = true) (hw : dd y % 7 = 5) (h0 : 23269 ≤ fp y) (h1 : fp y < 23292) : Pair (ny y % 7) (ny (y + 1) - ny y) (ny (y + 2) - ny (y + 1)) := by
  have e1 : y + 1 - 1 = y := by omega
  have e2 : y + 2 - 1 = y + 1 := by omega
  have e3 : y + 1 + 1 = y + 2 := by omega
  have n0 := ny_35 (y := y) (by omega)
  have s0 := dd_b (y := y) hl (by omega)
  have n1 := ny_35 (y := (y + 1)) (by omega)
  have s1 := dd_a (y := (y + 1)) hn (by omega)
  rw [e3] at s1
  have n2 := ny_0c (y := (y + 2)) (by omega) (by rw [e2]; exact hn)
  exact pair_of (a := 5) (b := 355) (c := 354) (by omega) (by omega) (by omega) (by decide)
theorem p_leaf424 {y : Int} (hp : leapB (y - 1) = true) (hl : leapB y = false) (hn : leapB (y + 1) = false) (hm : leapB (y + 2) = true) (hw : dd y % 7 = 5) (h0 : 23292 ≤ fp y) (h1 : fp y < 25920) : Pair (ny y % 7) (ny (y + 1) - ny y) (ny (y + 2) - ny (y + 1)) := by
  have e1 : y + 1 - 1 = y := by omega
  have e2 : y + 2 - 1 = y + 1 := by omega
  have e3 : y + 1 + 1 = y + 2 := by omega
  have n0 := ny_35 (y := y) (by omega)
  have s0 := dd_b (y := y) hl (by omega)
  have n1 := ny_35 (y := (y + 1)) (by omega)
  have s1 := dd_a (y := (y + 1)) hn (by omega)
  rw [e3] at s1
  have n2 := ny_0c (y := (y + 2)) (by omega) (by rw [e2]; exact hn)
  exact pair_of (a := 5) (b := 355) (c := 354) (by omega) (by omega) (by omega) (by decide)
theorem p_leaf425 {y : Int} (hp : leapB (y - 1) = true) (hl : leapB y = false) (hn : leapB (y + 1) = false) (hm : leapB (y + 2) = true) (hw : dd y % 7 = 6) (h0 : 0 ≤ fp y) (h1 : fp y < 2651) : Pair (ny y % 7) (ny (y + 1) - ny y) (ny (y + 2) - ny (y + 1)) := by
  have e1 : y + 1 - 1 = y := by omega
  have e2 : y + 2 - 1 = y + 1 := by omega
  have e3 : y + 1 + 1 = y + 2 := by omega
  have n0 := ny_246 (y := y) (by omega)
  have s0 := dd_a (y := y) hl (by omega)
  have n1 := ny_35 (y := (y + 1)) (by omega)
  have s1 := dd_a (y := (y + 1)) hn (by omega)
  rw [e3] at s1
  have n2 := ny_0c (y := (y + 2)) (by omega) (by rw [e2]; exact hn)
  exact pair_of (a := 0) (b := 353) (c := 354) (by omega) (by omega) (by omega) (by decide)
theorem p_leaf426 {y : Int} (hp : leapB (y - 1) = true) (hl : leapB y = false) (hn : leapB (y + 1) = false) (hm : leapB (y + 2) = true) (hw : dd y % 7 = 6) (h0 : 2651 ≤ fp y) (h1 : fp y < 4237) : Pair (ny y % 7) (ny (y + 1) - ny y) (ny (y + 2) - ny (y + 1)) := by
  have e1 : y + 1 - 1 = y := by omega
  have e2 : y + 2 - 1 = y + 1 := by omega
  have e3 : y + 1 + 1 = y + 2 := by omega
  have n0 := ny_246 (y := y) (by omega)
  have s0 := dd_a (y := y) hl (by omega)
  have n1 := ny_35 (y := (y + 1)) (by omega)
  have s1 := dd_a (y := (y + 1)) hn (by omega)
  rw [e3] at s1
  have n2 := ny_0c (y := (y + 2)) (by omega) (by rw [e2]; exact hn)
  exact pair_of (a := 0) (b := 353) (c := 354) (by omega) (by omega) (by omega) (by decide)
theorem p_leaf427 {y : Int} (hp : leapB (y - 1) = true) (hl : leapB y = false) (hn : leapB (y + 1) = false) (hm : leapB (y + 2) = true) (hw : dd y % 7 = 6) (h0 : 4237 ≤ fp y) (h1 : fp y < 6888) : Pair (ny y % 7) (ny (y + 1) - ny y) (ny (y + 2) - ny (y + 1)) := by
  have e1 : y + 1 - 1 = y := by omega
  have e2 : y + 2 - 1 = y + 1 := by omega
  have e3 : y + 1 + 1 = y + 2 := by omega
  have n0 := ny_246 (y := y) (by omega)
  have s0 := dd_a (y := y) hl (by omega)
  have n1 := ny_35 (y := (y + 1)) (by omega)
  have s1 := dd_a (y := (y + 1)) hn (by omega)
  rw [e3] at s1
  have n2 := ny_0c (y := (y + 2)) (by omega) (by rw [e2]; exact hn)
  exact pair_of (a := 0) (b := 353) (c := 354) (by omega) (by omega) (by omega) (by decide)
theorem p_leaf428 {y : Int} (hp : leapB (y - 1) = true) (hl : leapB y = false) (hn : leapB (y + 1) = false) (hm : leapB (y + 2) = true) (hw : dd y % 7 = 6) (h0 : 6888 ≤ fp y) (h1 : fp y < 9539) : Pair (ny y % 7) (ny (y + 1) - ny y) (ny (y + 2) - ny (y + 1)) := by
  have e1 : y + 1 - 1 = y := by omega
  have e2 : y + 2 - 1 = y + 1 := by omega
  have e3 : y + 1 + 1 = y + 2 := by omega
  have n0 := ny_246 (y := y) (by omega)
  have s0 := dd_a (y := y) hl (by omega)
  have n1 := ny_35 (y := (y + 1)) (by omega)
  have s1 := dd_b (y := (y + 1)) hn (by omega)
  rw [e3] at s1
  have n2 := ny_1c (y := (y + 2)) (by omega) hm
  exact pair_of (a := 0) (b := 353) (c := 355) (by omega) (by omega) (by omega) (by decide)
theorem p_leaf429 {y : Int} (hp : leapB (y - 1) = true) (hl : leapB y = false) (hn : leapB (y + 1) = false) (hm : leapB (y + 2) = true) (hw : dd y % 7 = 6) (h0 : 9539 ≤ fp y) (h1 : fp y < 13753) : Pair (ny y % 7) (ny (y + 1) - ny y) (ny (y + 2) - ny (y + 1)) := by
  have e1 : y + 1 - 1 = y := by omega
  have e2 : y + 2 - 1 = y + 1 := by omega
  have e3 : y + 1 + 1 = y + 2 := by omega
  have n0 := ny_246 (y := y) (by omega)
  have s0 := dd_a (y := y) hl (by omega)
  have n1 := ny_35 (y := (y + 1)) (by omega)
  have s1 := dd_b (y := (y + 1)) hn (by omega)
  rw [e3] at s1
  have n2 := ny_1c (y := (y + 2)) (by omega) hm
  exact pair_of (a := 0) (b := 353) (c := 355) (by omega) (by omega) (by omega) (by decide)
theorem p_leaf430 {y : Int} (hp : leapB (y - 1) = true) (hl : leapB y = false) (hn : leapB (y + 1) = false) (hm : leapB (y + 2) = true) (hw : dd y % 7 = 6) (h0 : 13753 ≤ fp y) (h1 : fp y < 16404) : Pair (ny y % 7) (ny (y + 1) - ny y) (ny (y + 2) - ny (y + 1)) := by
  have e1 : y + 1 - 1 = y := by omega
  have e2 : y + 2 - 1 = y + 1 := by omega
  have e3 : y + 1 + 1 = y + 2 := by omega
  have n0 := ny_246 (y := y) (by omega)
  have s0 := dd_a (y := y) hl (by omega)
  have n1 := ny_35 (y := (y + 1)) (by omega)
  have s1 := dd_b (y := (y + 1)) hn (by omega)
  rw [e3] at s1
  have n2 := ny_1c (y := (y + 2)) (by omega) hm
  exact pair_of (a := 0) (b := 353) (c := 355) (by omega) (by omega) (by omega) (by decide)
theorem p_leaf431 {y : Int} (hp : leapB (y - 1) = true) (hl : leapB y = false) (hn : leapB (y + 1) = false) (hm : leapB (y + 2) = true) (hw : dd y % 7 = 6) (h0 : 16404 ≤ fp y) (h1 : fp y < 19055) : Pair (ny y % 7) (ny (y + 1) - ny y) (ny (y + 2) - ny (y + 1)) := by
  have e1 : y + 1 - 1 = y := by omega
  have e2 : y + 2 - 1 = y + 1 := by omega
  have e3 : y + 1 + 1 = y + 2 := by omega
  have n0 := ny_246 (y := y) (by omega)
  have s0 := dd_b (y := y) hl (by omega)
  have n1 := ny_246 (y := (y + 1)) (by omega)
  have s1 := dd_a (y := (y + 1)) hn (by omega)
  rw [e3] at s1
  have n2 := ny_1c (y := (y + 2)) (by omega) hm
  exact pair_of (a := 0) (b := 355) (c := 353) (by omega) (by omega) (by omega) (by decide)
theorem p_leaf432 {y : Int} (hp : leapB (y - 1) = true) (hl : leapB y = false) (hn : leapB (y + 1) = false) (hm : leapB (y + 2) = true) (hw : dd y % 7 = 6) (h0 : 19055 ≤ fp y) (h1 : fp y < 23269) : Pair (ny y % 7) (ny (y + 1) - ny y) (ny (y + 2) - ny (y + 1)) := by
  have e1 : y + 1 - 1 = y := by omega
  have e2 : y + 2 - 1 = y + 1 := by omega
  have e3 : y + 1 + 1 = y + 2 := by omega
  have n0 := ny_246 (y := y) (by omega)
  have s0 := dd_b (y := y) hl (by omega)
  have n1 := ny_246 (y := (y + 1)) (by omega)
  have s1 := dd_a (y := (y + 1)) hn (by omega)
  rw [e3] at s1
  have n2 := ny_1c (y := (y + 2)) (by omega) hm
  exact pair_of (a := 0) (b := 355) (c := 353) (by omega) (by omega) (by omega) (by decide)
theorem p_leaf433 {y : Int} (hp : leapB (y - 1) = true) (hl : leapB y = false) (hn : leapB (y + 1) = false) (hm : leapB (y + 2) = true) (hw : dd y % 7 = 6) (h0 : 23269 ≤ fp y) (h1 : fp y < 23292) : Pair (ny y % 7) (ny (y + 1) - ny y) (ny (y + 2) - ny (y + 1)) := by
  have e1 : y + 1 - 1 = y := by omega
  have e2 : y + 2 - 1 = y + 1 := by omega
  have e3 : y + 1 + 1 = y + 2 := by omega
  have n0 := ny_246 (y := y) (by omega)
  have s0 := dd_b (y := y) hl (by omega)
  have n1 := ny_246 (y := (y + 1)) (by omega)
  have s1 := dd_a (y := (y + 1)) hn (by omega)
  rw [e3] at s1
  have n2 := ny_1c (y := (y + 2)) (by omega) hm
  exact pair_of (a := 0) (b := 355) (c := 353) (by omega) (by omega) (by omega) (by decide)
theorem p_leaf434 {y : Int} (hp : leapB (y - 1) = true) (hl : leapB y = false) (hn : leapB (y + 1) = false) (hm : leapB (y + 2) = true) (hw : dd y % 7 = 6) (h0 : 23292 ≤ fp y) (h1 : fp y < 25920) : Pair (ny y % 7) (ny (y + 1) - ny y) (ny (y + 2) - ny (y + 1)) := by
  have e1 : y + 1 - 1 = y := by omega
  have e2 : y + 2 - 1 = y + 1 := by omega
  have e3 : y + 1 + 1 = y + 2 := by omega
  have n0 := ny_246 (y := y) (by omega)
  have s0 := dd_b (y := y) hl (by omega)
  have n1 := ny_246 (y := (y + 1)) (by omega)
  have s1 := dd_a (y := (y + 1)) hn (by omega)
  rw [e3] at s1
  have n2 := ny_1c (y := (y + 2)) (by omega) hm
  exact pair_of (a := 0) (b := 355) (c := 353) (by omega) (by omega) (by omega) (by decide)
theorem p_tfft {y : Int} (hp : leapB (y - 1) = true) (hl : leapB y = false) (hn : leapB (y + 1) = false) (hm : leapB (y + 2) = true) : Pair (ny y % 7) (ny (y + 1) - ny y) (ny (y + 2) - ny (y + 1)) := by
  have b0 := fp_bd y
  have hw : dd y % 7 = 0 ∨ dd y % 7 = 1 ∨ dd y % 7 = 2 ∨ dd y % 7 = 3 ∨ dd y % 7 = 4 ∨ dd y % 7 = 5 ∨ dd y % 7 = 6 := by omega
  have hi : (0 ≤ fp y ∧ fp y < 2651) ∨ (2651 ≤ fp y ∧ fp y < 4237) ∨ (4237 ≤ fp y ∧ fp y < 6888) ∨ (6888 ≤ fp y ∧ fp y < 9539) ∨ (9539 ≤ fp y ∧ fp y < 13753) ∨ (13753 ≤ fp y ∧ fp y < 16404) ∨ (16404 ≤ fp y ∧ fp y < 19055) ∨ (19055 ≤ fp y ∧ fp y < 23269) ∨ (23269 ≤ fp y ∧ fp y < 23292) ∨ (23292 ≤ fp y ∧ fp y < 25920) := by omega
  rcases hw with hw | hw | hw | hw | hw | hw | hw <;> rcases hi with hi | hi | hi | hi | hi | hi | hi | hi | hi | hi
  · exact p_leaf365 hp hl hn hm hw hi.1 hi.2
  · exact p_leaf366 hp hl hn hm hw hi.1 hi.2
  · exact p_leaf367 hp hl hn hm hw hi.1 hi.2
  · exact p_leaf368 hp hl hn hm hw hi.1 hi.2
  · exact p_leaf369 hp hl hn hm hw hi.1 hi.2
  · exact p_leaf370 hp hl hn hm hw hi.1 hi.2
  · exact p_leaf371 hp hl hn hm hw hi.1 hi.2
  · exact p_leaf372 hp hl hn hm hw hi.1 hi.2
  · exact p_leaf373 hp hl hn hm hw hi.1 hi.2
  · exact p_leaf374 hp hl hn hm hw hi.1 hi.2
  · exact p_leaf375 hp hl hn hm hw hi.1 hi.2
  · exact p_leaf376 hp hl hn hm hw hi.1 hi.2
  · exact p_leaf377 hp hl hn hm hw hi.1 hi.2
  · exact p_leaf378 hp hl hn hm hw hi.1 hi.2
  · exact p_leaf379 hp hl hn hm hw hi.1 hi.2
  · exact p_leaf380 hp hl hn hm hw hi.1 hi.2
  · exact p_leaf381 hp hl hn hm hw hi.1 hi.2
  · exact p_leaf382 hp hl hn hm hw hi.1 hi.2
  · exact p_leaf383 hp hl hn hm hw hi.1 hi.2
  · exact p_leaf384 hp hl hn hm hw hi.1 hi.2
  · exact p_leaf385 hp hl hn hm hw hi.1 hi.2
  · exact p_leaf386 hp hl hn hm hw hi.1 hi.2
  · exact p_leaf387 hp hl hn hm hw hi.1 hi.2
  · exact p_leaf388 hp hl hn hm hw hi.1 hi.2
  · exact p_leaf389 hp hl hn hm hw hi.1 hi.2
  · exact p_leaf390 hp hl hn hm hw hi.1 hi.2
  · exact p_leaf391 hp hl hn hm hw hi.1 hi.2
  · exact p_leaf392 hp hl hn hm hw hi.1 hi.2
  · exact p_leaf393 hp hl hn hm hw hi.1 hi.2
  · exact p_leaf394 hp hl hn hm hw hi.1 hi.2
  · exact p_leaf395 hp hl hn hm hw hi.1 hi.2
  · exact p_leaf396 hp hl hn hm hw hi.1 hi.2
  · exact p_leaf397 hp hl hn hm hw hi.1 hi.2
  · exact p_leaf398 hp hl hn hm hw hi.1 hi.2
  · exact p_leaf399 hp hl hn hm hw hi.1 hi.2
  · exact p_leaf400 hp hl hn hm hw hi.1 hi.2
  · exact p_leaf401 hp hl hn hm hw hi.1 hi.2
  · exact p_leaf402 hp hl hn hm hw hi.1 hi.2
  · exact p_leaf403 hp hl hn hm hw hi.1 hi.2
  · exact p_leaf404 hp hl hn hm hw hi.1 hi.2
  · exact p_leaf405 hp hl hn hm hw hi.1 hi.2
  · exact p_leaf406 hp hl hn hm hw hi.1 hi.2
  · exact p_leaf407 hp hl hn hm hw hi.1 hi.2
  · exact p_leaf408 hp hl hn hm hw hi.1 hi.2
  · exact p_leaf409 hp hl hn hm hw hi.1 hi.2
  · exact p_leaf410 hp hl hn hm hw hi.1 hi.2
  · exact p_leaf411 hp hl hn hm hw hi.1 hi.2
  · exact p_leaf412 hp hl hn hm hw hi.1 hi.2
  · exact p_leaf413 hp hl hn hm hw hi.1 hi.2
  · exact p_leaf414 hp hl hn hm hw hi.1 hi.2
  · exact p_leaf415 hp hl hn hm hw hi.1 hi.2
  · exact p_leaf416 hp hl hn hm hw hi.1 hi.2
  · exact p_leaf417 hp hl hn hm hw hi.1 hi.2
  · exact p_leaf418 hp hl hn hm hw hi.1 hi.2
  · exact p_leaf419 hp hl hn hm hw hi.1 hi.2
  · exact p_leaf420 hp hl hn hm hw hi.1 hi.2
  · exact p_leaf421 hp hl hn hm hw hi.1 hi.2
  · exact p_leaf422 hp hl hn hm hw hi.1 hi.2
  · exact p_leaf423 hp hl hn hm hw hi.1 hi.2
  · exact p_leaf424 hp hl hn hm hw hi.1 hi.2
  · exact p_leaf425 hp hl hn hm hw hi.1 hi.2
  · exact p_leaf426 hp hl hn hm hw hi.1 hi.2
  · exact p_leaf427 hp hl hn hm hw hi.1 hi.2
  · exact p_leaf428 hp hl hn hm hw hi.1 hi.2
  · exact p_leaf429 hp hl hn hm hw hi.1 hi.2
  · exact p_leaf430 hp hl hn hm hw hi.1 hi.2
  · exact p_leaf431 hp hl hn hm hw hi.1 hi.2
  · exact p_leaf432 hp hl hn hm hw hi.1 hi.2
  · exact p_leaf433 hp hl hn hm hw hi.1 hi.2
  · exact p_leaf434 hp hl hn hm hw hi.1 hi.2
theorem p_leaf435 {y : Int} (hp : leapB (y - 1) = true) (hl : leapB y = false) (hn : leapB (y + 1) = true) (hm : leapB (y + 2) = false) (hw : dd y % 7 = 0) (h0 : 0 ≤ fp y) (h1 : fp y < 2651) : Pair (ny y % 7) (ny (y + 1) - ny y) (ny (y + 2) - ny (y + 1)) := by
  have e1 : y + 1 - 1 = y := by omega
  have e2 : y + 2 - 1 = y + 1 := by omega
  have e3 : y + 1 + 1 = y + 2 := by omega
  have n0 := ny_0b (y := y) (by omega) (by omega)
  have s0 := dd_a (y := y) hl (by omega)
  have n1 := ny_246 (y := (y + 1)) (by omega)
  have s1 := dd_d (y := (y + 1)) hn (by omega)
  rw [e3] at s1
  have n2 := ny_35 (y := (y + 2)) (by omega)
  exact pair_of (a := 0) (b := 355) (c := 383) (by omega) (by omega) (by omega) (by decide)
theorem p_leaf436 {y : Int} (hp : leapB (y - 1) = true) (hl : leapB y = false) (hn : leapB (y + 1) = true) (hm : leapB (y + 2) = false) (hw : dd y % 7 = 0) (h0 : 2651 ≤ fp y) (h1 : fp y < 6888) : Pair (ny y % 7) (ny (y + 1) - ny y) (ny (y + 2) - ny (y + 1)) := by
  have e1 : y + 1 - 1 = y := by omega
  have e2 : y + 2 - 1 = y + 1 := by omega
  have e3 : y + 1 + 1 = y + 2 := by omega
  have n0 := ny_0b (y := y) (by omega) (by omega)
  have s0 := dd_a (y := y) hl (by omega)
  have n1 := ny_246 (y := (y + 1)) (by omega)
  have s1 := dd_d (y := (y + 1)) hn (by omega)
  rw [e3] at s1
  have n2 := ny_35 (y := (y + 2)) (by omega)
  exact pair_of (a := 0) (b := 355) (c := 383) (by omega) (by omega) (by omega) (by decide)
theorem p_leaf437 {y : Int} (hp : leapB (y - 1) = true) (hl : leapB y = false) (hn : leapB (y + 1) = true) (hm : leapB (y + 2) = false) (hw : dd y % 7 = 0) (h0 : 6888 ≤ fp y) (h1 : fp y < 9539) : Pair (ny y % 7) (ny (y + 1) - ny y) (ny (y + 2) - ny (y + 1)) := by
  have e1 : y + 1 - 1 = y := by omega
  have e2 : y + 2 - 1 = y + 1 := by omega
  have e3 : y + 1 + 1 = y + 2 := by omega
  have n0 := ny_0b (y := y) (by omega) (by omega)
  have s0 := dd_a (y := y) hl (by omega)
  have n1 := ny_246 (y := (y + 1)) (by omega)
  have s1 := dd_d (y := (y + 1)) hn (by omega)
  rw [e3] at s1
  have n2 := ny_35 (y := (y + 2)) (by omega)
  exact pair_of (a := 0) (b := 355) (c := 383) (by omega) (by omega) (by omega) (by decide)
theorem p_leaf438 {y : Int} (hp : leapB (y - 1) = true) (hl : leapB y = false) (hn : leapB (y + 1) = true) (hm : leapB (y + 2) = false) (hw : dd y % 7 = 0) (h0 : 9539 ≤ fp y) (h1 : fp y < 13753) : Pair (ny y % 7) (ny (y + 1) - ny y) (ny (y + 2) - ny (y + 1)) := by
  have e1 : y + 1 - 1 = y := by omega
  have e2 : y + 2 - 1 = y + 1 := by omega
  have e3 : y + 1 + 1 = y + 2 := by omega
  have n0 := ny_0b (y := y) (by omega) (by omega)
  have s0 := dd_a (y := y) hl (by omega)
  have n1 := ny_246 (y := (y + 1)) (by omega)
  have s1 := dd_d (y := (y + 1)) hn (by omega)
  rw [e3] at s1
  have n2 := ny_35 (y := (y + 2)) (by omega)
  exact pair_of (a := 0) (b := 355) (c := 383) (by omega) (by omega) (by omega) (by decide)
theorem p_leaf439 {y : Int} (hp : leapB (y - 1) = true) (hl : leapB y = false) (hn : leapB (y + 1) = true) (hm : leapB (y + 2) = false) (hw : dd y % 7 = 0) (h0 : 13753 ≤ fp y) (h1 : fp y < 16404) : Pair (ny y % 7) (ny (y + 1) - ny y) (ny (y + 2) - ny (y + 1)) := by
  have e1 : y + 1 - 1 = y := by omega
  have e2 : y + 2 - 1 = y + 1 := by omega
  have e3 : y + 1 + 1 = y + 2 := by omega
  have n0 := ny_0b (y := y) (by omega) (by omega)
  have s0 := dd_a (y := y) hl (by omega)
  have n1 := ny_246 (y := (y + 1)) (by omega)
  have s1 := dd_d (y := (y + 1)) hn (by omega)
  rw [e3] at s1
  have n2 := ny_35 (y := (y + 2)) (by omega)
  exact pair_of (a := 0) (b := 355) (c := 383) (by omega) (by omega) (by omega) (by decide)
theorem p_leaf440 {y : Int} (hp : leapB (y - 1) = true) (hl : leapB y = false) (hn : leapB (y + 1) = true) (hm : leapB (y + 2) = false) (hw : dd y % 7 = 0) (h0 : 16404 ≤ fp y) (h1 : fp y < 19055) : Pair (ny y % 7) (ny (y + 1) - ny y) (ny (y + 2) - ny (y + 1)) := by
  have e1 : y + 1 - 1 = y := by omega
  have e2 : y + 2 - 1 = y + 1 := by omega
  have e3 : y + 1 + 1 = y + 2 := by omega
  have n0 := ny_0b (y := y) (by omega) (by omega)
  have s0 := dd_b (y := y) hl (by omega)
  have n1 := ny_35 (y := (y + 1)) (by omega)
  have s1 := dd_c (y := (y + 1)) hn (by omega)
  rw [e3] at s1
  have n2 := ny_35 (y := (y + 2)) (by omega)
  exact pair_of (a := 0) (b := 355) (c := 383) (by omega) (by omega) (by omega) (by decide)
theorem p_leaf441 {y : Int} (hp : leapB (y - 1) = true) (hl : leapB y = false) (hn : leapB (y + 1) = true) (hm : leapB (y + 2) = false) (hw : dd y % 7 = 0) (h0 : 19055 ≤ fp y) (h1 : fp y < 21706) : Pair (ny y % 7) (ny (y + 1) - ny y) (ny (y + 2) - ny (y + 1)) := by
  have e1 : y + 1 - 1 = y := by omega
  have e2 : y + 2 - 1 = y + 1 := by omega
  have e3 : y + 1 + 1 = y + 2 := by omega
  have n0 := ny_0b (y := y) (by omega) (by omega)
  have s0 := dd_b (y := y) hl (by omega)
  have n1 := ny_35 (y := (y + 1)) (by omega)
  have s1 := dd_d (y := (y + 1)) hn (by omega)
  rw [e3] at s1
  have n2 := ny_246 (y := (y + 2)) (by omega)
  exact pair_of (a := 0) (b := 355) (c := 385) (by omega) (by omega) (by omega) (by decide)
theorem p_leaf442 {y : Int} (hp : leapB (y - 1) = true) (hl : leapB y = false) (hn : leapB (y + 1) = true) (hm : leapB (y + 2) = false) (hw : dd y % 7 = 0) (h0 : 21706 ≤ fp y) (h1 : fp y < 23269) : Pair (ny y % 7) (ny (y + 1) - ny y) (ny (y + 2) - ny (y + 1)) := by
  have e1 : y + 1 - 1 = y := by omega
  have e2 : y + 2 - 1 = y + 1 := by omega
  have e3 : y + 1 + 1 = y + 2 := by omega
  have n0 := ny_0b (y := y) (by omega) (by omega)
  have s0 := dd_b (y := y) hl (by omega)
  have n1 := ny_35 (y := (y + 1)) (by omega)
  have s1 := dd_d (y := (y + 1)) hn (by omega)
  rw [e3] at s1
  have n2 := ny_246 (y := (y + 2)) (by omega)
  exact pair_of (a := 0) (b := 355) (c := 385) (by omega) (by omega) (by omega) (by decide)
theorem p_leaf443 {y : Int} (hp : leapB (y - 1) = true) (hl : leapB y = false) (hn : leapB (y + 1) = true) (hm : leapB (y + 2) = false) (hw : dd y % 7 = 0) (h0 : 23269 ≤ fp y) (h1 : fp y < 25920) : Pair (ny y % 7) (ny (y + 1) - ny y) (ny (y + 2) - ny (y + 1)) := by
  have e1 : y + 1 - 1 = y := by omega
  have e2 : y + 2 - 1 = y + 1 := by omega
  have e3 : y + 1 + 1 = y + 2 := by omega
  have n0 := ny_0a (y := y) (by omega) (by omega) hp
  have s0 := dd_b (y := y) hl (by omega)
  have n1 := ny_35 (y := (y + 1)) (by omega)
  have s1 := dd_d (y := (y + 1)) hn (by omega)
  rw [e3] at s1
  have n2 := ny_246 (y := (y + 2)) (by omega)
  exact pair_of (a := 1) (b := 354) (c := 385) (by omega) (by omega) (by omega) (by decide)
theorem p_leaf444 {y : Int} (hp : leapB (y - 1) = true) (hl : leapB y = false) (hn : leapB (y + 1) = true) (hm : leapB (y + 2) = false) (hw : dd y % 7 = 1) (h0 : 0 ≤ fp y) (h1 : fp y < 2651) : Pair (ny y % 7) (ny (y + 1) - ny y) (ny (y + 2) - ny (y + 1)) := by
  have e1 : y + 1 - 1 = y := by omega
  have e2 : y + 2 - 1 = y + 1 := by omega
  have e3 : y + 1 + 1 = y + 2 := by omega
  have n0 := ny_1b (y := y) (by omega) (by omega)
  have s0 := dd_a (y := y) hl (by omega)
  have n1 := ny_35 (y := (y + 1)) (by omega)
  have s1 := dd_d (y := (y + 1)) hn (by omega)
  rw [e3] at s1
  have n2 := ny_246 (y := (y + 2)) (by omega)
  exact pair_of (a := 1) (b := 354) (c := 385) (by omega) (by omega) (by omega) (by decide)
theorem p_leaf445 {y : Int} (hp : leapB (y - 1) = true) (hl : leapB y = false) (hn : leapB (y + 1) = true) (hm : leapB (y + 2) = false) (hw : dd y % 7 = 1) (h0 : 2651 ≤ fp y) (h1 : fp y < 6888) : Pair (ny y % 7) (ny (y + 1) - ny y) (ny (y + 2) - ny (y + 1)) := by
  have e1 : y + 1 - 1 = y := by omega
  have e2 : y + 2 - 1 = y + 1 := by omega
  have e3 : y + 1 + 1 = y + 2 := by omega
  have n0 := ny_1b (y := y) (by omega) (by omega)
  have s0 := dd_a (y := y) hl (by omega)
  have n1 := ny_35 (y := (y + 1)) (by omega)
  have s1 := dd_d (y := (y + 1)) hn (by omega)
  rw [e3] at s1
  have n2 := ny_246 (y := (y + 2)) (by omega)
  exact pair_of (a := 1) (b := 354) (c := 385) (by omega) (by omega) (by omega) (by decide)
theorem p_leaf446 {y : Int} (hp : leapB (y - 1) = true) (hl : leapB y = false) (hn : leapB (y + 1) = true) (hm : leapB (y + 2) = false) (hw : dd y % 7 = 1) (h0 : 6888 ≤ fp y) (h1 : fp y < 9539) : Pair (ny y % 7) (ny (y + 1) - ny y) (ny (y + 2) - ny (y + 1)) := by
  have e1 : y + 1 - 1 = y := by omega
  have e2 : y + 2 - 1 = y + 1 := by omega
  have e3 : y + 1 + 1 = y + 2 := by omega
  have n0 := ny_1b (y := y) (by omega) (by omega)
  have s0 := dd_a (y := y) hl (by omega)
  have n1 := ny_35 (y := (y + 1)) (by omega)
  have s1 := dd_d (y := (y + 1)) hn (by omega)
  rw [e3] at s1
  have n2 := ny_246 (y := (y + 2)) (by omega)
  exact pair_of (a := 1) (b := 354) (c := 385) (by omega) (by omega) (by omega) (by decide)
theorem p_leaf447 {y : Int} (hp : leapB (y - 1) = true) (hl : leapB y = false) (hn : leapB (y + 1) = true) (hm : leapB (y + 2) = false) (hw : dd y % 7 = 1) (h0 : 9539 ≤ fp y) (h1 : fp y < 13753) : Pair (ny y % 7) (ny (y + 1) - ny y) (ny (y + 2) - ny (y + 1)) := by
  have e1 : y + 1 - 1 = y := by omega
  have e2 : y + 2 - 1 = y + 1 := by omega
  have e3 : y + 1 + 1 = y + 2 := by omega
  have n0 := ny_1b (y := y) (by omega) (by omega)
  have s0 := dd_a (y := y) hl (by omega)
  have n1 := ny_35 (y := (y + 1)) (by omega)
  have s1 := dd_d (y := (y + 1)) hn (by omega)
  rw [e3] at s1
  have n2 := ny_246 (y := (y + 2)) (by omega)
  exact pair_of (a := 1) (b := 354) (c := 385) (by omega) (by omega) (by omega) (by decide)
theorem p_leaf448 {y : Int} (hp : leapB (y - 1) = true) (hl : leapB y = false) (hn : leapB (y + 1) = true) (hm : leapB (y + 2) = false) (hw : dd y % 7 = 1) (h0 : 13753 ≤ fp y) (h1 : fp y < 16404) : Pair (ny y % 7) (ny (y + 1) - ny y) (ny (y + 2) - ny (y + 1)) := by
  have e1 : y + 1 - 1 = y := by omega
  have e2 : y + 2 - 1 = y + 1 := by omega
  have e3 : y + 1 + 1 = y + 2 := by omega
  have n0 := ny_1b (y := y) (by omega) (by omega)
  have s0 := dd_a (y := y) hl (by omega)
  have n1 := ny_35 (y := (y + 1)) (by omega)
  have s1 := dd_d (y := (y + 1)) hn (by omega)
  rw [e3] at s1
  have n2 := ny_246 (y := (y + 2)) (by omega)
  exact pair_of (a := 1) (b := 354) (c := 385) (by omega) (by omega) (by omega) (by decide)
theorem p_leaf449 {y : Int} (hp : leapB (y - 1) = true) (hl : leapB y = false) (hn : leapB (y + 1) = true) (hm : leapB (y + 2) = false) (hw : dd y % 7 = 1) (h0 : 16404 ≤ fp y) (h1 : fp y < 19055) : Pair (ny y % 7) (ny (y + 1) - ny y) (ny (y + 2) - ny (y + 1)) := by
  have e1 : y + 1 - 1 = y := by omega
  have e2 : y + 2 - 1 = y + 1 := by omega
  have e3 : y + 1 + 1 = y + 2 := by omega
  have n0 := ny_1a (y := y) (by omega) (by omega) hl
  have s0 := dd_b (y := y) hl (by omega)
  have n1 := ny_246 (y := (y + 1)) (by omega)
  have s1 := dd_c (y := (y + 1)) hn (by omega)
  rw [e3] at s1
  have n2 := ny_246 (y := (y + 2)) (by omega)
  exact pair_of (a := 3) (b := 354) (c := 383) (by omega) (by omega) (by omega) (by decide)
theorem p_leaf450 {y : Int} (hp : leapB (y - 1) = true) (hl : leapB y = false) (hn : leapB (y + 1) = true) (hm : leapB (y + 2) = false) (hw : dd y % 7 = 1) (h0 : 19055 ≤ fp y) (h1 : fp y < 21706) : Pair (ny y % 7) (ny (y + 1) - ny y) (ny (y + 2) - ny (y + 1)) := by
  have e1 : y + 1 - 1 = y := by omega
  have e2 : y + 2 - 1 = y + 1 := by omega
  have e3 : y + 1 + 1 = y + 2 := by omega
  have n0 := ny_1a (y := y) (by omega) (by omega) hl
  have s0 := dd_b (y := y) hl (by omega)
  have n1 := ny_246 (y := (y + 1)) (by omega)
  have s1 := dd_d (y := (y + 1)) hn (by omega)
  rw [e3] at s1
  have n2 := ny_35 (y := (y + 2)) (by omega)
  exact pair_of (a := 3) (b := 354) (c := 383) (by omega) (by omega) (by omega) (by decide)
theorem p_leaf451 {y : Int} (hp : leapB (y - 1) = true) (hl : leapB y = false) (hn : leapB (y + 1) = true) (hm : leapB (y + 2) = false) (hw : dd y % 7 = 1) (h0 : 21706 ≤ fp y) (h1 : fp y < 23269) : Pair (ny y % 7) (ny (y + 1) - ny y) (ny (y + 2) - ny (y + 1)) := by
  have e1 : y + 1 - 1 = y := by omega
  have e2 : y + 2 - 1 = y + 1 := by omega
  have e3 : y + 1 + 1 = y + 2 := by omega
  have n0 := ny_1a (y := y) (by omega) (by omega) hl
  have s0 := dd_b (y := y) hl (by omega)
  have n1 := ny_246 (y := (y + 1)) (by omega)
  have s1 := dd_d (y := (y + 1)) hn (by omega)
  rw [e3] at s1
  have n2 := ny_35 (y := (y + 2)) (by omega)
  exact pair_of (a := 3) (b := 354) (c := 383) (by omega) (by omega) (by omega) (by decide)
theorem p_leaf452 {y : Int} (hp : leapB (y - 1) = true) (hl : leapB y = false) (hn : leapB (y + 1) = true) (hm : leapB (y + 2) = false) (hw : dd y % 7 = 1) (h0 : 23269 ≤ fp y) (h1 : fp y < 25920) : Pair (ny y % 7) (ny (y + 1) - ny y) (ny (y + 2) - ny (y + 1)) := by
  have e1 : y + 1 - 1 = y := by omega
  have e2 : y + 2 - 1 = y + 1 := by omega
  have e3 : y + 1 + 1 = y + 2 := by omega
  have n0 := ny_1a (y := y) (by omega) (by omega) hl
  have s0 := dd_b (y := y) hl (by omega)
  have n1 := ny_246 (y := (y + 1)) (by omega)
  have s1 := dd_d (y := (y + 1)) hn (by omega)
  rw [e3] at s1
  have n2 := ny_35 (y := (y + 2)) (by omega)
  exact pair_of (a := 3) (b := 354) (c := 383) (by omega) (by omega) (by omega) (by decide)
theorem p_leaf453 {y : Int} (hp : leapB (y - 1) = true) (hl : leapB y = false) (hn : leapB (y + 1) = true) (hm : leapB (y + 2) = false) (hw : dd y % 7 = 2) (h0 : 0 ≤ fp y) (h1 : fp y < 2651) : Pair (ny y % 7) (ny (y + 1) - ny y) (ny (y + 2) - ny (y + 1)) := by
  have e1 : y + 1 - 1 = y := by omega
  have e2 : y + 2 - 1 = y + 1 := by omega
  have e3 : y + 1 + 1 = y + 2 := by omega
  have n0 := ny_246 (y := y) (by omega)
  have s0 := dd_a (y := y) hl (by omega)
  have n1 := ny_246 (y := (y + 1)) (by omega)
  have s1 := dd_d (y := (y + 1)) hn (by omega)
  rw [e3] at s1
  have n2 := ny_35 (y := (y + 2)) (by omega)
  exact pair_of (a := 3) (b := 354) (c := 383) (by omega) (by omega) (by omega) (by decide)
theorem p_leaf454 {y : Int} (hp : leapB (y - 1) = true) (hl : leapB y = false) (hn : leapB (y + 1) = true) (hm : leapB (y + 2) = false) (hw : dd y % 7 = 2) (h0 : 2651 ≤ fp y) (h1 : fp y < 6888) : Pair (ny y % 7) (ny (y + 1) - ny y) (ny (y + 2) - ny (y + 1)) := by
  have e1 : y + 1 - 1 = y := by omega
  have e2 : y + 2 - 1 = y + 1 := by omega
  have e3 : y + 1 + 1 = y + 2 := by omega
  have n0 := ny_246 (y := y) (by omega)
  have s0 := dd_a (y := y) hl (by omega)
  have n1 := ny_246 (y := (y + 1)) (by omega)
  have s1 := dd_d (y := (y + 1)) hn (by omega)
  rw [e3] at s1
  have n2 := ny_35 (y := (y + 2)) (by omega)
  exact pair_of (a := 3) (b := 354) (c := 383) (by omega) (by omega) (by omega) (by decide)
theorem p_leaf455 {y : Int} (hp : leapB (y - 1) = true) (hl : leapB y = false) (hn : leapB (y + 1) = true) (hm : leapB (y + 2) = false) (hw : dd y % 7 = 2) (h0 : 6888 ≤ fp y) (h1 : fp y < 9539) : Pair (ny y % 7) (ny (y + 1) - ny y) (ny (y + 2) - ny (y + 1)) := by
  have e1 : y + 1 - 1 = y := by omega
  have e2 : y + 2 - 1 = y + 1 := by omega
  have e3 : y + 1 + 1 = y + 2 := by omega
  have n0 := ny_246 (y := y) (by omega)
  have s0 := dd_a (y := y) hl (by omega)
  have n1 := ny_246 (y := (y + 1)) (by omega)
  have s1 := dd_d (y := (y + 1)) hn (by omega)
  rw [e3] at s1
  have n2 := ny_35 (y := (y + 2)) (by omega)
  exact pair_of (a := 3) (b := 354) (c := 383) (by omega) (by omega) (by omega) (by decide)
theorem p_leaf456 {y : Int} (hp : leapB (y - 1) = true) (hl : leapB y = false) (hn : leapB (y + 1) = true) (hm : leapB (y + 2) = false) (hw : dd y % 7 = 2) (h0 : 9539 ≤ fp y) (h1 : fp y < 13753) : Pair (ny y % 7) (ny (y + 1) - ny y) (ny (y + 2) - ny (y + 1)) := by
  have e1 : y + 1 - 1 = y := by omega
  have e2 : y + 2 - 1 = y + 1 := by omega
  have e3 : y + 1 + 1 = y + 2 := by omega
  have n0 := ny_246 (y := y) (by omega)
  have s0 := dd_a (y := y) hl (by omega)
  have n1 := ny_246 (y := (y + 1)) (by omega)
  have s1 := dd_d (y := (y + 1)) hn (by omega)
  rw [e3] at s1
  have n2 := ny_35 (y := (y + 2)) (by omega)
  exact pair_of (a := 3) (b := 354) (c := 383) (by omega) (by omega) (by omega) (by decide)
theorem p_leaf457 {y : Int} (hp : leapB (y - 1) = true) (hl : leapB y = false) (hn : leapB (y + 1) = true) (hm : leapB (y + 2) = false) (hw : dd y % 7 = 2) (h0 : 13753 ≤ fp y) (h1 : fp y < 16404) : Pair (ny y % 7) (ny (y + 1) - ny y) (ny (y + 2) - ny (y + 1)) := by
  have e1 : y + 1 - 1 = y := by omega
  have e2 : y + 2 - 1 = y + 1 := by omega
  have e3 : y + 1 + 1 = y + 2 := by omega
  have n0 := ny_246 (y := y) (by omega)
  have s0 := dd_a (y := y) hl (by omega)
  have n1 := ny_246 (y := (y + 1)) (by omega)
  have s1 := dd_d (y := (y + 1)) hn (by omega)
  rw [e3] at s1
  have n2 := ny_35 (y := (y + 2)) (by omega)
  exact pair_of (a := 3) (b := 354) (c := 383) (by omega) (by omega) (by omega) (by decide)
theorem p_leaf458 {y : Int} (hp : leapB (y - 1) = true) (hl : leapB y = false) (hn : leapB (y + 1) = true) (hm : leapB (y + 2) = false) (hw : dd y % 7 = 2) (h0 : 16404 ≤ fp y) (h1 : fp y < 19055) : Pair (ny y % 7) (ny (y + 1) - ny y) (ny (y + 2) - ny (y + 1)) := by
  have e1 : y + 1 - 1 = y := by omega
  have e2 : y + 2 - 1 = y + 1 := by omega
  have e3 : y + 1 + 1 = y + 2 := by omega
  have n0 := ny_246 (y := y) (by omega)
  have s0 := dd_b (y := y) hl (by omega)
  have n1 := ny_0c (y := (y + 1)) (by omega) (by rw [e1]; exact hl)
  have s1 := dd_c (y := (y + 1)) hn (by omega)
  rw [e3] at s1
  have n2 := ny_35 (y := (y + 2)) (by omega)
  exact pair_of (a := 3) (b := 354) (c := 383) (by omega) (by omega) (by omega) (by decide)
theorem p_leaf459 {y : Int} (hp : leapB (y - 1) = true) (hl : leapB y = false) (hn : leapB (y + 1) = true) (hm : leapB (y + 2) = false) (hw : dd y % 7 = 2) (h0 : 19055 ≤ fp y) (h1 : fp y < 21706) : Pair (ny y % 7) (ny (y + 1) - ny y) (ny (y + 2) - ny (y + 1)) := by
  have e1 : y + 1 - 1 = y := by omega
  have e2 : y + 2 - 1 = y + 1 := by omega
  have e3 : y + 1 + 1 = y + 2 := by omega
  have n0 := ny_246 (y := y) (by omega)
  have s0 := dd_b (y := y) hl (by omega)
  have n1 := ny_0c (y := (y + 1)) (by omega) (by rw [e1]; exact hl)
  have s1 := dd_d (y := (y + 1)) hn (by omega)
  rw [e3] at s1
  have n2 := ny_246 (y := (y + 2)) (by omega)
  exact pair_of (a := 3) (b := 354) (c := 385) (by omega) (by omega) (by omega) (by decide)
theorem p_leaf460 {y : Int} (hp : leapB (y - 1) = true) (hl : leapB y = false) (hn : leapB (y + 1) = true) (hm : leapB (y + 2) = false) (hw : dd y % 7 = 2) (h0 : 21706 ≤ fp y) (h1 : fp y < 23269) : Pair (ny y % 7) (ny (y + 1) - ny y) (ny (y + 2) - ny (y + 1)) := by
  have e1 : y + 1 - 1 = y := by omega
  have e2 : y + 2 - 1 = y + 1 := by omega
  have e3 : y + 1 + 1 = y + 2 := by omega
  have n0 := ny_246 (y := y) (by omega)
  have s0 := dd_b (y := y) hl (by omega)
  have n1 := ny_0c (y := (y + 1)) (by omega) (by rw [e1]; exact hl)
  have s1 := dd_d (y := (y + 1)) hn (by omega)
  rw [e3] at s1
  have n2 := ny_246 (y := (y + 2)) (by omega)
  exact pair_of (a := 3) (b := 354) (c := 385) (by omega) (by omega) (by omega) (by decide)
theorem p_leaf461 {y : Int} (hp : leapB (y - 1) = true) (hl : leapB y = false) (hn : leapB (y + 1) = true) (hm : leapB (y + 2) = false) (hw : dd y % 7 = 2) (h0 : 23269 ≤ fp y) (h1 : fp y < 25920) : Pair (ny y % 7) (ny (y + 1) - ny y) (ny (y + 2) - ny (y + 1)) := by
  have e1 : y + 1 - 1 = y := by omega
  have e2 : y + 2 - 1 = y + 1 := by omega
  have e3 : y + 1 + 1 = y + 2 := by omega
  have n0 := ny_246 (y := y) (by omega)
  have s0 := dd_b (y := y) hl (by omega)
  have n1 := ny_0c (y := (y + 1)) (by omega) (by rw [e1]; exact hl)
  have s1 := dd_d (y := (y + 1)) hn (by omega)
  rw [e3] at s1
  have n2 := ny_246 (y := (y + 2)) (by omega)
  exact pair_of (a := 3) (b := 354) (c := 385) (by omega) (by omega) (by omega) (by decide)
theorem p_leaf462 {y : Int} (hp : leapB (y - 1) = true) (hl : leapB y = false) (hn : leapB (y + 1) = true) (hm : leapB (y + 2) = false) (hw : dd y % 7 = 3) (h0 : 0 ≤ fp y) (h1 : fp y < 2651) : Pair (ny y % 7) (ny (y + 1) - ny y) (ny (y + 2) - ny (y + 1)) := by
  have e1 : y + 1 - 1 = y := by omega
  have e2 : y + 2 - 1 = y + 1 := by omega
  have e3 : y + 1 + 1 = y + 2 := by omega
  have n0 := ny_35 (y := y) (by omega)
  have s0 := dd_a (y := y) hl (by omega)
  have n1 := ny_0c (y := (y + 1)) (by omega) (by rw [e1]; exact hl)
  have s1 := dd_d (y := (y + 1)) hn (by omega)
  rw [e3] at s1
  have n2 := ny_246 (y := (y + 2)) (by omega)
  exact pair_of (a := 3) (b := 354) (c := 385) (by omega) (by omega) (by omega) (by decide)
theorem p_leaf463 {y : Int} (hp : leapB (y - 1) = true) (hl : leapB y = false) (hn : leapB (y + 1) = true) (hm : leapB (y + 2) = false) (hw : dd y % 7 = 3) (h0 : 2651 ≤ fp y) (h1 : fp y < 6888) : Pair (ny y % 7) (ny (y + 1) - ny y) (ny (y + 2) - ny (y + 1)) := by
  have e1 : y + 1 - 1 = y := by omega
  have e2 : y + 2 - 1 = y + 1 := by omega
  have e3 : y + 1 + 1 = y + 2 := by omega
  have n0 := ny_35 (y := y) (by omega)
  have s0 := dd_a (y := y) hl (by omega)
  have n1 := ny_0c (y := (y + 1)) (by omega) (by rw [e1]; exact hl)
  have s1 := dd_d (y := (y + 1)) hn (by omega)
  rw [e3] at s1
  have n2 := ny_246 (y := (y + 2)) (by omega)
  exact pair_of (a := 3) (b := 354) (c := 385) (by omega) (by omega) (by omega) (by decide)
theorem p_leaf464 {y : Int} (hp : leapB (y - 1) = true) (hl : leapB y = false) (hn : leapB (y + 1) = true) (hm : leapB (y + 2) = false) (hw : dd y % 7 = 3) (h0 : 6888 ≤ fp y) (h1 : fp y < 9539) : Pair (ny y % 7) (ny (y + 1) - ny y) (ny (y + 2) - ny (y + 1)) := by
  have e1 : y + 1 - 1 = y := by omega
  have e2 : y + 2 - 1 = y + 1 := by omega
  have e3 : y + 1 + 1 = y + 2 := by omega
  have n0 := ny_35 (y := y) (by omega)
  have s0 := dd_a (y := y) hl (by omega)
  have n1 := ny_0c (y := (y + 1)) (by omega) (by rw [e1]; exact hl)
  have s1 := dd_d (y := (y + 1)) hn (by omega)
  rw [e3] at s1
  have n2 := ny_246 (y := (y + 2)) (by omega)
  exact pair_of (a := 3) (b := 354) (c := 385) (by omega) (by omega) (by omega) (by decide)
theorem p_leaf465 {y : Int} (hp : leapB (y - 1) = true) (hl : leapB y = false) (hn : leapB (y + 1) = true) (hm : leapB (y + 2) = false) (hw : dd y % 7 = 3) (h0 : 9539 ≤ fp y) (h1 : fp y < 13753) : Pair (ny y % 7) (ny (y + 1) - ny y) (ny (y + 2) - ny (y + 1)) := by
  have e1 : y + 1 - 1 = y := by omega
  have e2 : y + 2 - 1 = y + 1 := by omega
  have e3 : y + 1 + 1 = y + 2 := by omega
  have n0 := ny_35 (y := y) (by omega)
  have s0 := dd_a (y := y) hl (by omega)
  have n1 := ny_0c (y := (y + 1)) (by omega) (by rw [e1]; exact hl)
  have s1 := dd_d (y := (y + 1)) hn (by omega)
  rw [e3] at s1
  have n2 := ny_246 (y := (y + 2)) (by omega)
  exact pair_of (a := 3) (b := 354) (c := 385) (by omega) (by omega) (by omega) (by decide)
theorem p_leaf466 {y : Int} (hp : leapB (y - 1) = true) (hl : leapB y = false) (hn : leapB (y + 1) = true) (hm : leapB (y + 2) = false) (hw : dd y % 7 = 3) (h0 : 13753 ≤ fp y) (h1 : fp y < 16404) : Pair (ny y % 7) (ny (y + 1) - ny y) (ny (y + 2) - ny (y + 1)) := by
  have e1 : y + 1 - 1 = y := by omega
  have e2 : y + 2 - 1 = y + 1 := by omega
  have e3 : y + 1 + 1 = y + 2 := by omega
  have n0 := ny_35 (y := y) (by omega)
  have s0 := dd_a (y := y) hl (by omega)
  have n1 := ny_0c (y := (y + 1)) (by omega) (by rw [e1]; exact hl)
  have s1 := dd_d (y := (y + 1)) hn (by omega)
  rw [e3] at s1
  have n2 := ny_246 (y := (y + 2)) (by omega)
  exact pair_of (a := 3) (b := 354) (c := 385) (by omega) (by omega) (by omega) (by decide)
theorem p_leaf467 {y : Int} (hp : leapB (y - 1) = true) (hl : leapB y = false) (hn : leapB (y + 1) = true) (hm : leapB (y + 2) = false) (hw : dd y % 7 = 3) (h0 : 16404 ≤ fp y) (h1 : fp y < 19055) : Pair (ny y % 7) (ny (y + 1) - ny y) (ny (y + 2) - ny (y + 1)) := by
  have e1 : y + 1 - 1 = y := by omega
  have e2 : y + 2 - 1 = y + 1 := by omega
  have e3 : y + 1 + 1 = y + 2 := by omega
  have n0 := ny_35 (y := y) (by omega)
  have s0 := dd_b (y := y) hl (by omega)
  have n1 := ny_1c (y := (y + 1)) (by omega) hn
  have s1 := dd_c (y := (y + 1)) hn (by omega)
  rw [e3] at s1
  have n2 := ny_246 (y := (y + 2)) (by omega)
  exact pair_of (a := 3) (b := 355) (c := 384) (by omega) (by omega) (by omega) (by decide)
theorem p_leaf468 {y : Int} (hp : leapB (y - 1) = true) (hl : leapB y = false) (hn : leapB (y + 1) = true) (hm : leapB (y + 2) = false) (hw : dd y % 7 = 3) (h0 : 19055 ≤ fp y) (h1 : fp y < 21706) : Pair (ny y % 7) (ny (y + 1) - ny y) (ny (y + 2) - ny (y + 1)) := by
  have e1 : y + 1 - 1 = y := by omega
  have e2 : y + 2 - 1 = y + 1 := by omega
  have e3 : y + 1 + 1 = y + 2 := by omega
  have n0 := ny_35 (y := y) (by omega)
  have s0 := dd_b (y := y) hl (by omega)
  have n1 := ny_1c (y := (y + 1)) (by omega) hn
  have s1 := dd_d (y := (y + 1)) hn (by omega)
  rw [e3] at s1
  have n2 := ny_0b (y := (y + 2)) (by omega) (by omega)
  exact pair_of (a := 3) (b := 355) (c := 384) (by omega) (by omega) (by omega) (by decide)
theorem p_leaf469 {y : Int} (hp : leapB (y - 1) = true) (hl : leapB y = false) (hn : leapB (y + 1) = true) (hm : leapB (y + 2) = false) (hw : dd y % 7 = 3) (h0 : 21706 ≤ fp y) (h1 : fp y < 23269) : Pair (ny y % 7) (ny (y + 1) - ny y) (ny (y + 2) - ny (y + 1)) := by
  have e1 : y + 1 - 1 = y := by omega
  have e2 : y + 2 - 1 = y + 1 := by omega
  have e3 : y + 1 + 1 = y + 2 := by omega
  have n0 := ny_35 (y := y) (by omega)
  have s0 := dd_b (y := y) hl (by omega)
  have n1 := ny_1c (y := (y + 1)) (by omega) hn
  have s1 := dd_d (y := (y + 1)) hn (by omega)
  rw [e3] at s1
  have n2 := ny_0b (y := (y + 2)) (by omega) (by omega)
  exact pair_of (a := 3) (b := 355) (c := 384) (by omega) (by omega) (by omega) (by decide)
theorem p_leaf470 {y : Int} (hp : leapB (y - 1) = true) (hl : leapB y = false) (hn : leapB (y + 1) = true) (hm : leapB (y + 2) = false) (hw : dd y % 7 = 3) (h0 : 23269 ≤ fp y) (h1 : fp y < 25920) : Pair (ny y % 7) (ny (y + 1) - ny y) (ny (y + 2) - ny (y + 1)) := by
  have e1 : y + 1 - 1 = y := by omega
  have e2 : y + 2 - 1 = y + 1 := by omega
  have e3 : y + 1 + 1 = y + 2 := by omega
  have n0 := ny_35 (y := y) (by omega)
  have s0 := dd_b (y := y) hl (by omega)
  have n1 := ny_1c (y := (y + 1)) (by omega) hn
  have s1 := dd_d (y := (y + 1)) hn (by omega)
  rw [e3] at s1
  have n2 := ny_0b (y := (y + 2)) (by omega) (by omega)
  exact pair_of (a := 3) (b := 355) (c := 384) (by omega) (by omega) (by omega) (by decide)
theorem p_leaf471 {y : Int} (hp : leapB (y - 1) = true) (hl : leapB y = false) (hn : leapB (y + 1) = true) (hm : leapB (y + 2) = false) (hw : dd y % 7 = 4) (h0 : 0 ≤ fp y) (h1 : fp y < 2651) : Pair (ny y % 7) (ny (y + 1) - ny y) (ny (y + 2) - ny (y + 1)) := by
  have e1 : y + 1 - 1 = y := by omega
  have e2 : y + 2 - 1 = y + 1 := by omega
  have e3 : y + 1 + 1 = y + 2 := by omega
  have n0 := ny_246 (y := y) (by omega)
  have s0 := dd_a (y := y) hl (by omega)
  have n1 := ny_1c (y := (y + 1)) (by omega) hn
  have s1 := dd_d (y := (y + 1)) hn (by omega)
  rw [e3] at s1
  have n2 := ny_0b (y := (y + 2)) (by omega) (by omega)
  exact pair_of (a := 5) (b := 353) (c := 384) (by omega) (by omega) (by omega) (by decide)
theorem p_leaf472 {y : Int} (hp : leapB (y - 1) = true) (hl : leapB y = false) (hn : leapB (y + 1) = true) (hm : leapB (y + 2) = false) (hw : dd y % 7 = 4) (h0 : 2651 ≤ fp y) (h1 : fp y < 6888) : Pair (ny y % 7) (ny (y + 1) - ny y) (ny (y + 2) - ny (y + 1)) := by
  have e1 : y + 1 - 1 = y := by omega
  have e2 : y + 2 - 1 = y + 1 := by omega
  have e3 : y + 1 + 1 = y + 2 := by omega
  have n0 := ny_246 (y := y) (by omega)
  have s0 := dd_a (y := y) hl (by omega)
  have n1 := ny_1c (y := (y + 1)) (by omega) hn
  have s1 := dd_d (y := (y + 1)) hn (by omega)
  rw [e3] at s1
  have n2 := ny_0b (y := (y + 2)) (by omega) (by omega)
  exact pair_of (a := 5) (b := 353) (c := 384) (by omega) (by omega) (by omega) (by decide)
theorem p_leaf473 {y : Int} (hp : leapB (y - 1) = true) (hl : leapB y = false) (hn : leapB (y + 1) = true) (hm : leapB (y + 2) = false) (hw : dd y % 7 = 4) (h0 : 6888 ≤ fp y) (h1 : fp y < 9539) : Pair (ny y % 7) (ny (y + 1) - ny y) (ny (y + 2) - ny (y + 1)) := by
  have e1 : y + 1 - 1 = y := by omega
  have e2 : y + 2 - 1 = y + 1 := by omega
  have e3 : y + 1 + 1 = y + 2 := by omega
  have n0 := ny_246 (y := y) (by omega)
  have s0 := dd_a (y := y) hl (by omega)
  have n1 := ny_1c (y := (y + 1)) (by omega) hn
  have s1 := dd_d (y := (y + 1)) hn (by omega)
  rw [e3] at s1
  have n2 := ny_0b (y := (y + 2)) (by omega) (by omega)
  exact pair_of (a := 5) (b := 353) (c := 384) (by omega) (by omega) (by omega) (by decide)
theorem p_leaf474 {y : Int} (hp : leapB (y - 1) = true) (hl : leapB y = false) (hn : leapB (y + 1) = true) (hm : leapB (y + 2) = false) (hw : dd y % 7 = 4) (h0 : 9539 ≤ fp y) (h1 : fp y < 13753) : Pair (ny y % 7) (ny (y + 1) - ny y) (ny (y + 2) - ny (y + 1)) := by
  have e1 : y + 1 - 1 = y := by omega
  have e2 : y + 2 - 1 = y + 1 := by omega
  have e3 : y + 1 + 1 = y + 2 := by omega
  have n0 := ny_246 (y := y) (by omega)
  have s0 := dd_a (y := y) hl (by omega)
  have n1 := ny_1c (y := (y + 1)) (by omega) hn
  have s1 := dd_d (y := (y + 1)) hn (by omega)
  rw [e3] at s1
  have n2 := ny_0b (y := (y + 2)) (by omega) (by omega)
  exact pair_of (a := 5) (b := 353) (c := 384) (by omega) (by omega) (by omega) (by decide)
theorem p_leaf475 {y : Int} (hp : leapB (y - 1) = true) (hl : leapB y = false) (hn : leapB (y + 1) = true) (hm : leapB (y + 2) = false) (hw : dd y % 7 = 4) (h0 : 13753 ≤ fp y) (h1 : fp y < 16404) : Pair (ny y % 7) (ny (y + 1) - ny y) (ny (y + 2) - ny (y + 1)) := by
  have e1 : y + 1 - 1 = y := by omega
  have e2 : y + 2 - 1 = y + 1 := by omega
  have e3 : y + 1 + 1 = y + 2 := by omega
  have n0 := ny_246 (y := y) (by omega)
  have s0 := dd_a (y := y) hl (by omega)
  have n1 := ny_1c (y := (y + 1)) (by omega) hn
  have s1 := dd_d (y := (y + 1)) hn (by omega)
  rw [e3] at s1
  have n2 := ny_0b (y := (y + 2)) (by omega) (by omega)
  exact pair_of (a := 5) (b := 353) (c := 384) (by omega) (by omega) (by omega) (by decide)
theorem p_leaf476 {y : Int} (hp : leapB (y - 1) = true) (hl : leapB y = false) (hn : leapB (y + 1) = true) (hm : leapB (y + 2) = false) (hw : dd y % 7 = 4) (h0 : 16404 ≤ fp y) (h1 : fp y < 19055) : Pair (ny y % 7) (ny (y + 1) - ny y) (ny (y + 2) - ny (y + 1)) := by
  have e1 : y + 1 - 1 = y := by omega
  have e2 : y + 2 - 1 = y + 1 := by omega
  have e3 : y + 1 + 1 = y + 2 := by omega
  have n0 := ny_246 (y := y) (by omega)
  have s0 := dd_b (y := y) hl (by omega)
  have n1 := ny_246 (y := (y + 1)) (by omega)
  have s1 := dd_c (y := (y + 1)) hn (by omega)
  rw [e3] at s1
  have n2 := ny_0a (y := (y + 2)) (by omega) (by omega) (by rw [e2]; exact hn)
  exact pair_of (a := 5) (b := 355) (c := 383) (by omega) (by omega) (by omega) (by decide)
theorem p_leaf477 {y : Int} (hp : leapB (y - 1) = true) (hl : leapB y = false) (hn : leapB (y + 1) = true) (hm : leapB (y + 2) = false) (hw : dd y % 7 = 4) (h0 : 19055 ≤ fp y) (h1 : fp y < 21706) : Pair (ny y % 7) (ny (y + 1) - ny y) (ny (y + 2) - ny (y + 1)) := by
  have e1 : y + 1 - 1 = y := by omega
  have e2 : y + 2 - 1 = y + 1 := by omega
  have e3 : y + 1 + 1 = y + 2 := by omega
  have n0 := ny_246 (y := y) (by omega)
  have s0 := dd_b (y := y) hl (by omega)
  have n1 := ny_246 (y := (y + 1)) (by omega)
  have s1 := dd_d (y := (y + 1)) hn (by omega)
  rw [e3] at s1
  have n2 := ny_1b (y := (y + 2)) (by omega) (by omega)
  exact pair_of (a := 5) (b := 355) (c := 383) (by omega) (by omega) (by omega) (by decide)
theorem p_leaf478 {y : Int} (hp : leapB (y - 1) = true) (hl : leapB y = false) (hn : leapB (y + 1) = true) (hm : leapB (y + 2) = false) (hw : dd y % 7 = 4) (h0 : 21706 ≤ fp y) (h1 : fp y < 23269) : Pair (ny y % 7) (ny (y + 1) - ny y) (ny (y + 2) - ny (y + 1)) := by
  have e1 : y + 1 - 1 = y := by omega
  have e2 : y + 2 - 1 = y + 1 := by omega
  have e3 : y + 1 + 1 = y + 2 := by omega
  have n0 := ny_246 (y := y) (by omega)
  have s0 := dd_b (y := y) hl (by omega)
  have n1 := ny_246 (y := (y + 1)) (by omega)
  have s1 := dd_d (y := (y + 1)) hn (by omega)
  rw [e3] at s1
  have n2 := ny_1b (y := (y + 2)) (by omega) (by omega)
  exact pair_of (a := 5) (b := 355) (c := 383) (by omega) (by omega) (by omega) (by decide)
theorem p_leaf479 {y : Int} (hp : leapB (y - 1) = true) (hl : leapB y = false) (hn : leapB (y + 1) = true) (hm : leapB (y + 2) = false) (hw : dd y % 7 = 4) (h0 : 23269 ≤ fp y) (h1 : fp y < 25920) : Pair (ny y % 7) (ny (y + 1) - ny y) (ny (y + 2) - ny (y + 1)) := by
  have e1 : y + 1 - 1 = y := by omega
  have e2 : y + 2 - 1 = y + 1 := by omega
  have e3 : y + 1 + 1 = y + 2 := by omega
  have n0 := ny_246 (y := y) (by omega)
  have s0 := dd_b (y := y) hl (by omega)
  have n1 := ny_246 (y := (y + 1)) (by omega)
  have s1 := dd_d (y := (y + 1)) hn (by omega)
  rw [e3] at s1
  have n2 := ny_1b (y := (y + 2)) (by omega) (by omega)
  exact pair_of (a := 5) (b := 355) (c := 383) (by omega) (by omega) (by omega) (by decide)
theorem p_leaf480 {y : Int} (hp : leapB (y - 1) = true) (hl : leapB y = false) (hn : leapB (y + 1) = true) (hm : leapB (y + 2) = false) (hw : dd y % 7 = 5) (h0 : 0 ≤ fp y) (h1 : fp y < 2651) : Pair (ny y % 7) (ny (y + 1) - ny y) (ny (y + 2) - ny (y + 1)) := by
  have e1 : y + 1 - 1 = y := by omega
  have e2 : y + 2 - 1 = y + 1 := by omega
  have e3 : y + 1 + 1 = y + 2 := by omega
  have n0 := ny_35 (y := y) (by omega)
  have s0 := dd_a (y := y) hl (by omega)
  have n1 := ny_246 (y := (y + 1)) (by omega)
  have s1 := dd_d (y := (y + 1)) hn (by omega)
  rw [e3] at s1
  have n2 := ny_1b (y := (y + 2)) (by omega) (by omega)
  exact pair_of (a := 5) (b := 355) (c := 383) (by omega) (by omega) (by omega) (by decide)
theorem p_leaf481 {y : Int} (hp : leapB (y - 1) = true) (hl : leapB y = false) (hn : leapB (y + 1) = true) (hm : leapB (y + 2) = false) (hw : dd y % 7 = 5) (h0 : 2651 ≤ fp y) (h1 : fp y < 6888) : Pair (ny y % 7) (ny (y + 1) - ny y) (ny (y + 2) - ny (y + 1)) := by
  have e1 : y + 1 - 1 = y := by omega
  have e2 : y + 2 - 1 = y + 1 := by omega
  have e3 : y + 1 + 1 = y + 2 := by omega
  have n0 := ny_35 (y := y) (by omega)
  have s0 := dd_a (y := y) hl (by omega)
  have n1 := ny_246 (y := (y + 1)) (by omega)
  have s1 := dd_d (y := (y + 1)) hn (by omega)
  rw [e3] at s1
  have n2 := ny_1b (y := (y + 2)) (by omega) (by omega)
  exact pair_of (a := 5) (b := 355) (c := 383) (by omega) (by omega) (by omega) (by decide)
theorem p_leaf482 {y : Int} (hp : leapB (y - 1) = true) (hl : leapB y = false) (hn : leapB (y + 1) = true) (hm : leapB (y + 2) = false) (hw : dd y % 7 = 5) (h0 : 6888 ≤ fp y) (h1 : fp y < 9539) : Pair (ny y % 7) (ny (y + 1) - ny y) (ny (y + 2) - ny (y + 1)) := by
  have e1 : y + 1 - 1 = y := by omega
  have e2 : y + 2 - 1 = y + 1 := by omega
  have e3 : y + 1 + 1 = y + 2 := by omega
  have n0 := ny_35 (y := y) (by omega)
  have s0 := dd_a (y := y) hl (by omega)
  have n1 := ny_246 (y := (y + 1)) (by omega)
  have s1 := dd_d (y := (y + 1)) hn (by omega)
  rw [e3] at s1
  have n2 := ny_1b (y := (y + 2)) (by omega) (by omega)
  exact pair_of (a := 5) (b := 355) (c := 383) (by omega) (by omega) (by omega) (by decide)
theorem p_leaf483 {y : Int} (hp : leapB (y - 1) = true) (hl : leapB y = false) (hn : leapB (y + 1) = true) (hm : leapB (y + 2) = false) (hw : dd y % 7 = 5) (h0 : 9539 ≤ fp y) (h1 : fp y < 13753) : Pair (ny y % 7) (ny (y + 1) - ny y) (ny (y + 2) - ny (y + 1)) := by
  have e1 : y + 1 - 1 = y := by omega
  have e2 : y + 2 - 1 = y + 1 := by omega
  have e3 : y + 1 + 1 = y + 2 := by omega
  have n0 := ny_35 (y := y) (by omega)
  have s0 := dd_a (y := y) hl (by omega)
  have n1 := ny_246 (y := (y + 1)) (by omega)
  have s1 := dd_d (y := (y + 1)) hn (by omega)
  rw [e3] at s1
  have n2 := ny_1a (y := (y + 2)) (by omega) (by omega) hm
  exact pair_of (a := 5) (b := 355) (c := 385) (by omega) (by omega) (by omega) (by decide)
theorem p_leaf484 {y : Int} (hp : leapB (y - 1) = true) (hl : leapB y = false) (hn : leapB (y + 1) = true) (hm : leapB (y + 2) = false) (hw : dd y % 7 = 5) (h0 : 13753 ≤ fp y) (h1 : fp y < 16404) : Pair (ny y % 7) (ny (y + 1) - ny y) (ny (y + 2) - ny (y + 1)) := by
  have e1 : y + 1 - 1 = y := by omega
  have e2 : y + 2 - 1 = y + 1 := by omega
  have e3 : y + 1 + 1 = y + 2 := by omega
  have n0 := ny_35 (y := y) (by omega)
  have s0 := dd_a (y := y) hl (by omega)
  have n1 := ny_246 (y := (y + 1)) (by omega)
  have s1 := dd_d (y := (y + 1)) hn (by omega)
  rw [e3] at s1
  have n2 := ny_1a (y := (y + 2)) (by omega) (by omega) hm
  exact pair_of (a := 5) (b := 355) (c := 385) (by omega) (by omega) (by omega) (by decide)
theorem p_leaf485 {y : Int} (hp : leapB (y - 1) = true) (hl : leapB y = false) (hn : leapB (y + 1) = true) (hm : leapB (y + 2) = false) (hw : dd y % 7 = 5) (h0 : 16404 ≤ fp y) (h1 : fp y < 19055) : Pair (ny y % 7) (ny (y + 1) - ny y) (ny (y + 2) - ny (y + 1)) := by
  have e1 : y + 1 - 1 = y := by omega
  have e2 : y + 2 - 1 = y + 1 := by omega
  have e3 : y + 1 + 1 = y + 2 := by omega
  have n0 := ny_35 (y := y) (by omega)
  have s0 := dd_b (y := y) hl (by omega)
  have n1 := ny_35 (y := (y + 1)) (by omega)
  have s1 := dd_c (y := (y + 1)) hn (by omega)
  rw [e3] at s1
  have n2 := ny_1a (y := (y + 2)) (by omega) (by omega) hm
  exact pair_of (a := 5) (b := 355) (c := 385) (by omega) (by omega) (by omega) (by decide)
theorem p_leaf486 {y : Int} (hp : leapB (y - 1) = true) (hl : leapB y = false) (hn : leapB (y + 1) = true) (hm : leapB (y + 2) = false) (hw : dd y % 7 = 5) (h0 : 19055 ≤ fp y) (h1 : fp y < 21706) : Pair (ny y % 7) (ny (y + 1) - ny y) (ny (y + 2) - ny (y + 1)) := by
  have e1 : y + 1 - 1 = y := by omega
  have e2 : y + 2 - 1 = y + 1 := by omega
  have e3 : y + 1 + 1 = y + 2 := by omega
  have n0 := ny_35 (y := y) (by omega)
  have s0 := dd_b (y := y) hl (by omega)
  have n1 := ny_35 (y := (y + 1)) (by omega)
  have s1 := dd_d (y := (y + 1)) hn (by omega)
  rw [e3] at s1
  have n2 := ny_246 (y := (y + 2)) (by omega)
  exact pair_of (a := 5) (b := 355) (c := 385) (by omega) (by omega) (by omega) (by decide)
theorem p_leaf487 {y : Int} (hp : leapB (y - 1) = true) (hl : leapB y = false) (hn : leapB (y + 1) = true) (hm : leapB (y + 2) = false) (hw : dd y % 7 = 5) (h0 : 21706 ≤ fp y) (h1 : fp y < 23269) : Pair (ny y % 7) (ny (y + 1) - ny y) (ny (y + 2) - ny (y + 1)) := by
  have e1 : y + 1 - 1 = y := by omega
  have e2 : y + 2 - 1 = y + 1 := by omega
  have e3 : y + 1 + 1 = y + 2 := by omega
  have n0 := ny_35 (y := y) (by omega)
  have s0 := dd_b (y := y) hl (by omega)
  have n1 := ny_35 (y := (y + 1)) (by omega)
  have s1 := dd_d (y := (y + 1)) hn (by omega)
  rw [e3] at s1
  have n2 := ny_246 (y := (y + 2)) (by omega)
  exact pair_of (a := 5) (b := 355) (c := 385) (by omega) (by omega) (by omega) (by decide)
theorem p_leaf488 {y : Int} (hp : leapB (y - 1) = true) (hl : leapB y = false) (hn : leapB (y + 1) = true) (hm : leapB (y + 2) = false) (hw : dd y % 7 = 5) (h0 : 23269 ≤ fp y) (h1 : fp y < 25920) : Pair (ny y % 7) (ny (y + 1) - ny y) (ny (y + 2) - ny (y + 1)) := by
  have e1 : y + 1 - 1 = y := by omega
  have e2 : y + 2 - 1 = y + 1 := by omega
  have e3 : y + 1 + 1 = y + 2 := by omega
  have n0 := ny_35 (y := y) (by omega)
  have s0 := dd_b (y := y) hl (by omega)
  have n1 := ny_35 (y := (y + 1)) (by omega)
  have s1 := dd_d (y := (y + 1)) hn (by omega)
  rw [e3] at s1
  have n2 := ny_246 (y := (y + 2)) (by omega)
  exact pair_of (a := 5) (b := 355) (c := 385) (by omega) (by omega) (by omega) (by decide)
theorem p_leaf489 {y : Int} (hp : leapB (y - 1) = true) (hl : leapB y = false) (hn : leapB (y + 1) = true) (hm : leapB (y + 2) = false) (hw : dd y % 7 = 6) (h0 : 0 ≤ fp y) (h1 : fp y < 2651) : Pair (ny y % 7) (ny (y + 1) - ny y) (ny (y + 2) - ny (y + 1)) := by
  have e1 : y + 1 - 1 = y := by omega
  have e2 : y + 2 - 1 = y + 1 := by omega
  have e3 : y + 1 + 1 = y + 2 := by omega
  have n0 := ny_246 (y := y) (by omega)
  have s0 := dd_a (y := y) hl (by omega)
  have n1 := ny_35 (y := (y + 1)) (by omega)
  have s1 := dd_d (y := (y + 1)) hn (by omega)
  rw [e3] at s1
  have n2 := ny_246 (y := (y + 2)) (by omega)
  exact pair_of (a := 0) (b := 353) (c := 385) (by omega) (by omega) (by omega) (by decide)
theorem p_leaf490 {y : Int} (hp : leapB (y - 1) = true) (hl : leapB y = false) (hn : leapB (y + 1) = true) (hm : leapB (y + 2) = false) (hw : dd y % 7 = 6) (h0 : 2651 ≤ fp y) (h1 : fp y < 6888) : Pair (ny y % 7) (ny (y + 1) - ny y) (ny (y + 2) - ny (y + 1)) := by
  have e1 : y + 1 - 1 = y := by omega
  have e2 : y + 2 - 1 = y + 1 := by omega
  have e3 : y + 1 + 1 = y + 2 := by omega
  have n0 := ny_246 (y := y) (by omega)
  have s0 := dd_a (y := y) hl (by omega)
  have n1 := ny_35 (y := (y + 1)) (by omega)
  have s1 := dd_d (y := (y + 1)) hn (by omega)
  rw [e3] at s1
  have n2 := ny_246 (y := (y + 2)) (by omega)
  exact pair_of (a := 0) (b := 353) (c := 385) (by omega) (by omega) (by omega) (by decide)
theorem p_leaf491 {y : Int} (hp : leapB (y - 1) = true) (hl : leapB y = false) (hn : leapB (y + 1) = true) (hm : leapB (y + 2) = false) (hw : dd y % 7 = 6) (h0 : 6888 ≤ fp y) (h1 : fp y < 9539) : Pair (ny y % 7) (ny (y + 1) - ny y) (ny (y + 2) - ny (y + 1)) := by
  have e1 : y + 1 - 1 = y := by omega
  have e2 : y + 2 - 1 = y + 1 := by omega
  have e3 : y + 1 + 1 = y + 2 := by omega
  have n0 := ny_246 (y := y) (by omega)
  have s0 := dd_a (y := y) hl (by omega)
  have n1 := ny_35 (y := (y + 1)) (by omega)
  have s1 := dd_d (y := (y + 1)) hn (by omega)
  rw [e3] at s1
  have n2 := ny_246 (y := (y + 2)) (by omega)
  exact pair_of (a := 0) (b := 353) (c := 385) (by omega) (by omega) (by omega) (by decide)
theorem p_leaf492 {y : Int} (hp : leapB (y - 1) = true) (hl : leapB y = false) (hn : leapB (y + 1) = true) (hm : leapB (y + 2) = false) (hw : dd y % 7 = 6) (h0 : 9539 ≤ fp y) (h1 : fp y < 13753) : Pair (ny y % 7) (ny (y + 1) - ny y) (ny (y + 2) - ny (y + 1)) := by
  have e1 : y + 1 - 1 = y := by omega
  have e2 : y + 2 - 1 = y + 1 := by omega
  have e3 : y + 1 + 1 = y + 2 := by omega
  have n0 := ny_246 (y := y) (by omega)
  have s0 := dd_a (y := y) hl (by omega)
  have n1 := ny_35 (y := (y + 1)) (by omega)
  have s1 := dd_d (y := (y + 1)) hn (by omega)
  rw [e3] at s1
  have n2 := ny_246 (y := (y + 2)) (by omega)
  exact pair_of (a := 0) (b := 353) (c := 385) (by omega) (by omega) (by omega) (by decide)
theorem p_leaf493 {y : Int} (hp : leapB (y - 1) = true) (hl : leapB y = false) (hn : leapB (y + 1) = true) (hm : leapB (y + 2) = false) (hw : dd y % 7 = 6) (h0 : 13753 ≤ fp y) (h1 : fp y < 16404) : Pair (ny y % 7) (ny (y + 1) - ny y) (ny (y + 2) - ny (y + 1)) := by
  have e1 : y + 1 - 1 = y := by omega
  have e2 : y + 2 - 1 = y + 1 := by omega
  have e3 : y + 1 + 1 = y + 2 := by omega
  have n0 := ny_246 (y := y) (by omega)
  have s0 := dd_a (y := y) hl (by omega)
  have n1 := ny_35 (y := (y + 1)) (by omega)
  have s1 := dd_d (y := (y + 1)) hn (by omega)
  rw [e3] at s1
  have n2 := ny_246 (y := (y + 2)) (by omega)
  exact pair_of (a := 0) (b := 353) (c := 385) (by omega) (by omega) (by omega) (by decide)
theorem p_leaf494 {y : Int} (hp : leapB (y - 1) = true) (hl : leapB y = false) (hn : leapB (y + 1) = true) (hm : leapB (y + 2) = false) (hw : dd y % 7 = 6) (h0 : 16404 ≤ fp y) (h1 : fp y < 19055) : Pair (ny y % 7) (ny (y + 1) - ny y) (ny (y + 2) - ny (y + 1)) := by
  have e1 : y + 1 - 1 = y := by omega
  have e2 : y + 2 - 1 = y + 1 := by omega
  have e3 : y + 1 + 1 = y + 2 := by omega
  have n0 := ny_246 (y := y) (by omega)
  have s0 := dd_b (y := y) hl (by omega)
  have n1 := ny_246 (y := (y + 1)) (by omega)
  have s1 := dd_c (y := (y + 1)) hn (by omega)
  rw [e3] at s1
  have n2 := ny_246 (y := (y + 2)) (by omega)
  exact pair_of (a := 0) (b := 355) (c := 383) (by omega) (by omega) (by omega) (by decide)
theorem p_leaf495 {y : Int} (hp : leapB (y - 1) = true) (hl : leapB y = false) (hn : leapB (y + 1) = true) (hm : leapB (y + 2) = false) (hw : dd y % 7 = 6) (h0 : 19055 ≤ fp y) (h1 : fp y < 21706) : Pair (ny y % 7) (ny (y + 1) - ny y) (ny (y + 2) - ny (y + 1)) := by
  have e1 : y + 1 - 1 = y := by omega
  have e2 : y + 2 - 1 = y + 1 := by omega
  have e3 : y + 1 + 1 = y + 2 := by omega
  have n0 := ny_246 (y := y) (by omega)
  have s0 := dd_b (y := y) hl (by omega)
  have n1 := ny_246 (y := (y + 1)) (by omega)
  have s1 := dd_d (y := (y + 1)) hn (by omega)
  rw [e3] at s1
  have n2 := ny_35 (y := (y + 2)) (by omega)
  exact pair_of (a := 0) (b := 355) (c := 383) (by omega) (by omega) (by omega) (by decide)
theorem p_leaf496 {y : Int} (hp : leapB (y - 1) = true) (hl : leapB y = false) (hn : leapB (y + 1) = true) (hm : leapB (y + 2) = false) (hw : dd y % 7 = 6) (h0 : 21706 ≤ fp y) (h1 : fp y < 23269) : Pair (ny y % 7) (ny (y + 1) - ny y) (ny (y + 2) - ny (y + 1)) := by
  have e1 : y + 1 - 1 = y := by omega
  have e2 : y + 2 - 1 = y + 1 := by omega
  have e3 : y + 1 + 1 = y + 2 := by omega
  have n0 := ny_246 (y := y) (by omega)
  have s0 := dd_b (y := y) hl (by omega)
  have n1 := ny_246 (y := (y + 1)) (by omega)
  have s1 := dd_d (y := (y + 1)) hn (by omega)
  rw [e3] at s1
  have n2 := ny_35 (y := (y + 2)) (by omega)
  exact pair_of (a := 0) (b := 355) (c := 383) (by omega) (by omega) (by omega) (by decide)
theorem p_leaf497 {y : Int} (hp : leapB (y - 1) = true) (hl : leapB y = false) (hn : leapB (y + 1) = true) (hm : leapB (y + 2) = false) (hw : dd y % 7 = 6) (h0 : 23269 ≤ fp y) (h1 : fp y < 25920) : Pair (ny y % 7) (ny (y + 1) - ny y) (ny (y + 2) - ny (y + 1)) := by
  have e1 : y + 1 - 1 = y := by omega
  have e2 : y + 2 - 1 = y + 1 := by omega
  have e3 : y + 1 + 1 = y + 2 := by omega
  have n0 := ny_246 (y := y) (by omega)
  have s0 := dd_b (y := y) hl (by omega)
  have n1 := ny_246 (y := (y + 1)) (by omega)
  have s1 := dd_d (y := (y + 1)) hn (by omega)
  rw [e3] at s1
  have n2 := ny_35 (y := (y + 2)) (by omega)
  exact pair_of (a := 0) (b := 355) (c := 383) (by omega) (by omega) (by omega) (by decide)
theorem p_tftf {y : Int} (hp : leapB (y - 1) = true) (hl : leapB y = false) (hn : leapB (y + 1) = true) (hm : leapB (y + 2) = false) : Pair (ny y % 7) (ny (y + 1) - ny y) (ny (y + 2) - ny (y + 1)) := by
  have b0 := fp_bd y
  have hw : dd y % 7 = 0 ∨ dd y % 7 = 1 ∨ dd y % 7 = 2 ∨ dd y % 7 = 3 ∨ dd y % 7 = 4 ∨ dd y % 7 = 5 ∨ dd y % 7 = 6 := by omega
  have hi : (0 ≤ fp y ∧ fp y < 2651) ∨ (2651 ≤ fp y ∧ fp y < 6888) ∨ (6888 ≤ fp y ∧ fp y < 9539) ∨ (9539 ≤ fp y ∧ fp y < 13753) ∨ (13753 ≤ fp y ∧ fp y < 16404) ∨ (16404 ≤ fp y ∧ fp y < 19055) ∨ (19055 ≤ fp y ∧ fp y < 21706) ∨ (21706 ≤ fp y ∧ fp y < 23269) ∨ (23269 ≤ fp y ∧ fp y < 25920) := by omega
  rcases hw with hw | hw | hw | hw | hw | hw | hw <;> rcases hi with hi | hi | hi | hi | hi | hi | hi | hi | hi
  · exact p_leaf435 hp hl hn hm hw hi.1 hi.2
  · exact p_leaf436 hp hl hn hm hw hi.1 hi.2
  · exact p_leaf437 hp hl hn hm hw hi.1 hi.2
  · exact p_leaf438 hp hl hn hm hw hi.1 hi.2
  · exact p_leaf439 hp hl hn hm hw hi.1 hi.2
  · exact p_leaf440 hp hl hn hm hw hi.1 hi.2
  · exact p_leaf441 hp hl hn hm hw hi.1 hi.2
  · exact p_leaf442 hp hl hn hm hw hi.1 hi.2
  · exact p_leaf443 hp hl hn hm hw hi.1 hi.2
  · exact p_leaf444 hp hl hn hm hw hi.1 hi.2
  · exact p_leaf445 hp hl hn hm hw hi.1 hi.2
  · exact p_leaf446 hp hl hn hm hw hi.1 hi.2
  · exact p_leaf447 hp hl hn hm hw hi.1 hi.2
  · exact p_leaf448 hp hl hn hm hw hi.1 hi.2
  · exact p_leaf449 hp hl hn hm hw hi.1 hi.2
  · exact p_leaf450 hp hl hn hm hw hi.1 hi.2
  · exact p_leaf451 hp hl hn hm hw hi.1 hi.2
  · exact p_leaf452 hp hl hn hm hw hi.1 hi.2
  · exact p_leaf453 hp hl hn hm hw hi.1 hi.2
  · exact p_leaf454 hp hl hn hm hw hi.1 hi.2
  · exact p_leaf455 hp hl hn hm hw hi.1 hi.2
  · exact p_leaf456 hp hl hn hm hw hi.1 hi.2
  · exact p_leaf457 hp hl hn hm hw hi.1 hi.2
  · exact p_leaf458 hp hl hn hm hw hi.1 hi.2
  · exact p_leaf459 hp hl hn hm hw hi.1 hi.2
  · exact p_leaf460 hp hl hn hm hw hi.1 hi.2
  · exact p_leaf461 hp hl hn hm hw hi.1 hi.2
  · exact p_leaf462 hp hl hn hm hw hi.1 hi.2
  · exact p_leaf463 hp hl hn hm hw hi.1 hi.2
  · exact p_leaf464 hp hl hn hm hw hi.1 hi.2
  · exact p_leaf465 hp hl hn hm hw hi.1 hi.2
  · exact p_leaf466 hp hl hn hm hw hi.1 hi.2
  · exact p_leaf467 hp hl hn hm hw hi.1 hi.2
  · exact p_leaf468 hp hl hn hm hw hi.1 hi.2
  · exact p_leaf469 hp hl hn hm hw hi.1 hi.2
  · exact p_leaf470 hp hl hn hm hw hi.1 hi.2
  · exact p_leaf471 hp hl hn hm hw hi.1 hi.2
  · exact p_leaf472 hp hl hn hm hw hi.1 hi.2
  · exact p_leaf473 hp hl hn hm hw hi.1 hi.2
  · exact p_leaf474 hp hl hn hm hw hi.1 hi.2
  · exact p_leaf475 hp hl hn hm hw hi.1 hi.2
  · exact p_leaf476 hp hl hn hm hw hi.1 hi.2
  · exact p_leaf477 hp hl hn hm hw hi.1 hi.2
  · exact p_leaf478 hp hl hn hm hw hi.1 hi.2
  · exact p_leaf479 hp hl hn hm hw hi.1 hi.2
  · exact p_leaf480 hp hl hn hm hw hi.1 hi.2
  · exact p_leaf481 hp hl hn hm hw hi.1 hi.2
  · exact p_leaf482 hp hl hn hm hw hi.1 hi.2
  · exact p_leaf483 hp hl hn hm hw hi.1 hi.2
  · exact p_leaf484 hp hl hn hm hw hi.1 hi.2
  · exact p_leaf485 hp hl hn hm hw hi.1 hi.2
  · exact p_leaf486 hp hl hn hm hw hi.1 hi.2
  · exact p_leaf487 hp hl hn hm hw hi.1 hi.2
  · exact p_leaf488 hp hl hn hm hw hi.1 hi.2
  · exact p_leaf489 hp hl hn hm hw hi.1 hi.2
  · exact p_leaf490 hp hl hn hm hw hi.1 hi.2
  · exact p_leaf491 hp hl hn hm hw hi.1 hi.2
  · exact p_leaf492 hp hl hn hm hw hi.1 hi.2
  · exact p_leaf493 hp hl hn hm hw hi.1 hi.2
  · exact p_leaf494 hp hl hn hm hw hi.1 hi.2
  · exact p_leaf495 hp hl hn hm hw hi.1 hi.2
  · exact p_leaf496 hp hl hn hm hw hi.1 hi.2
  · exact p_leaf497 hp hl hn hm hw hi.1 hi.2
theorem pair (y : Int) : Pair (ny y % 7) (ny (y + 1) - ny y) (ny (y + 2) - ny (y + 1)) := by
  have g1 := leap_gap (y - 1)
  have g2 := leap_gap y
  have g3 := leap_gap (y + 1)
  have e1 : y - 1 + 1 = y := by omega
  have e2 : y - 1 + 2 = y + 1 := by omega
  have e3 : y + 1 + 1 = y + 2 := by omega
  rw [e1, e2] at g1
  rw [e3] at g3
  cases hp : leapB (y - 1) <;> cases hl : leapB y <;> cases hn : leapB (y + 1) <;> cases hm : leapB (y + 2)
  · exfalso; simp [hp, hl, hn, hm] at g1 g2 g3
  · exfalso; simp [hp, hl, hn, hm] at g1 g2 g3
  · exact p_fftf hp hl hn hm
  · exfalso; simp [hp, hl, hn, hm] at g1 g2 g3
  · exact p_ftff hp hl hn hm
  · exact p_ftft hp hl hn hm
  · exfalso; simp [hp, hl, hn, hm] at g1 g2 g3
  · exfalso; simp [hp, hl, hn, hm] at g1 g2 g3
  · exfalso; simp [hp, hl, hn, hm] at g1 g2 g3
  · exact p_tfft hp hl hn hm
  · exact p_tftf hp hl hn hm
  · exfalso; simp [hp, hl, hn, hm] at g1 g2 g3
  · exfalso; simp [hp, hl, hn, hm] at g1 g2 g3
  · exfalso; simp [hp, hl, hn, hm] at g1 g2 g3
  · exfalso; simp [hp, hl, hn, hm] at g1 g2 g3
  · exfalso; simp [hp, hl, hn, hm] at g1 g2 g3
end Mine
end

section
open PySem PySem.W PyProof.Rows
set_option Elab.async false
set_option maxRecDepth 100000 
set_option maxHeartbeats 8000000 
namespace Mine
def Cl (D U : Nat) (f : Addr) (vs : List Value) (R : Value → Prop) : Prop :=
  ∀ (w : World) (mean : ExcName → Option Value) (mg mb : Str → Option Value) (dp un : Nat) (gd : Option (List Code)) (cn : Str) (cs : Scope) (a : Addr) (ccd : Value) (cl : List (Str × Addr)) (outer : List Env) (A₀ : Around) (base h₀ : Heap) (L : Addr) (m : Str → Option Value) (news : List (Addr × Obj)) (s : Shared) (Q E : Value → Shared → Prop),
    Below A₀ base outer h₀ → Fr h₀ L s.heap m → (Mine.hd2.heap_39 w.params).In h₀ → News h₀ L s.heap news → Top Mine.hd2.view_39 (looseW Mine.hd2.view_39 []) mean mg mb h₀ → cs.kind = .function →
    dp + D < recursionLimit → un + U < cLine → (∀ (v : Value) (h' : Heap) (tk' : Nat), R v → Fr h₀ L h' m → News h₀ L h' news → Q v { s with heap := h', toks := tk' }) →
      wpAny (model PySem.Challenge.rw_bd6013_02.row.prog w) (ktrTop dp un gd cn cs L a ccd cl outer) (call (.ref f) vs) Q E s
theorem cl_use {D U : Nat} {f : Addr} {vs : List Value} {R : Value → Prop} {w : World} {mean : ExcName → Option Value} {mg mb : Str → Option Value} {dp un : Nat} {gd : Option (List Code)} {cn : Str} {cs : Scope} {a : Addr} {ccd : Value} {cl : List (Str × Addr)} {outer : List Env} {A₀ : Around} {base h₀ : Heap} {L : Addr} {m : Str → Option Value} {news : List (Addr × Obj)} {s : Shared} {Q E : Value → Shared → Prop}
    (C : Cl D U f vs R) (B : Below A₀ base outer h₀) (F : Fr h₀ L s.heap m) (X : (Mine.hd2.heap_39 w.params).In h₀) (N : News h₀ L s.heap news) (T : Top Mine.hd2.view_39 (looseW Mine.hd2.view_39 []) mean mg mb h₀) (hk : cs.kind = .function)
    (hd : dp + D < recursionLimit) (hu : un + U < cLine) (ret : ∀ (v : Value) (h' : Heap) (tk' : Nat), R v → Fr h₀ L h' m → News h₀ L h' news → Q v { s with heap := h', toks := tk' }) :
      wpAny (model PySem.Challenge.rw_bd6013_02.row.prog w) (ktrTop dp un gd cn cs L a ccd cl outer) (call (.ref f) vs) Q E s :=
  C w mean mg mb dp un gd cn cs a ccd cl outer A₀ base h₀ L m news s Q E B F X N T hk hd hu ret
theorem cl_ret {R : Value → Prop} {h₀ h' : Heap} {L : Addr} {m : Str → Option Value} {news : List (Addr × Obj)} {s : Shared} {Q : Value → Shared → Prop} {v : Value} {tk' : Nat}
    (hret : ∀ (v : Value) (h' : Heap) (tk' : Nat), R v → Fr h₀ L h' m → News h₀ L h' news → Q v { s with heap := h', toks := tk' }) (e : R v) (F : Fr h₀ L h' m) (N : News h₀ L h' news) : Q v { s with heap := h', toks := tk' } := hret v h' tk' e F N
theorem cl_drop {h₀ h : Heap} {L : Addr} {p : Addr × Obj} {news : List (Addr × Obj)} (N : News h₀ L h (p :: news)) : News h₀ L h news := fun q hq => N q (.tail _ hq)
def IsI (P : Int → Prop) (v : Value) : Prop := ∃ (i : Int) (t : Tok), v = .int i t ∧ P i
def IsF (P : Int → Prop) (v : Value) : Prop := ∃ (i : Int) (t : Tok), v = .float (hf i) t ∧ P i
def IsB (b : Bool) (v : Value) : Prop := v = .bool b

theorem fillme : PySem.Challenge.rw_bd6013_02.prog = PySem.Challenge.rw_bd6013_02.prog ∧ Mine.hd2.heap_39 = Mine.hd2.heap_39 := by
  w_top off
  k_fill
  exact ⟨rfl, rfl⟩

section rules
variable {prog : Program} {w : World} {A : Around} {E : Value → Shared → Prop} {s : Shared} {Q : Value → Shared → Prop}
theorem my_floor {x : UInt64} {t : Tok} {q : Int} (hA : A.handled = none) (hx : Float64.isFinite x = true ∧ Flt.toInt Float64.floorOf x = q) (h : Q (.int q s.toks) { s with toks := s.toks + 1 }) :
    wpAny (model prog w) A (call (.builtin "math.floor") [.float x t]) Q E s :=
  Flt.call_floor_float hA (fun hn => absurd (Flt.not_nan_of_finite hx.1) (by rw [hn]; decide)) (fun hn => absurd (Flt.not_inf_of_finite hx.1) (by rw [hn]; decide)) (fun _ => hx.2 ▸ h)
end rules
theorem floor_19 {a : Int} (h0 : 0 ≤ a) (h1 : a ≤ 1000000000000) : Float64.isFinite (Float64.ofFrac (decide (a < 0) != decide ((19:Int) < 0)) a.natAbs (Int.natAbs 19)) = true ∧ Flt.toInt Float64.floorOf (Float64.ofFrac (decide (a < 0) != decide ((19:Int) < 0)) a.natAbs (Int.natAbs 19)) = a / 19 := by
  have e : (decide (a < 0) != decide ((19:Int) < 0)) = false := by rw [decide_eq_false (by omega)]; rfl
  have e2 : Int.natAbs 19 = 19 := rfl
  rw [e, e2]
  have h := floor_quot (n := a.natAbs) (d := 19) (q := a.natAbs / 19) (s := 5) (by decide) (by decide) (by decide) rfl (by omega)
  refine ⟨h.1, h.2.trans ?_⟩
  omega
theorem floor_25920 {a : Int} (h0 : 0 ≤ a) (h1 : a ≤ 1000000000000000) : Float64.isFinite (Float64.ofFrac (decide (a < 0) != decide ((25920:Int) < 0)) a.natAbs (Int.natAbs 25920)) = true ∧ Flt.toInt Float64.floorOf (Float64.ofFrac (decide (a < 0) != decide ((25920:Int) < 0)) a.natAbs (Int.natAbs 25920)) = a / 25920 := by
  have e : (decide (a < 0) != decide ((25920:Int) < 0)) = false := by rw [decide_eq_false (by omega)]; rfl
  have e2 : Int.natAbs 25920 = 25920 := rfl
  rw [e, e2]
  have h := floor_quot (n := a.natAbs) (d := 25920) (q := a.natAbs / 25920) (s := 15) (by decide) (by decide) (by decide) rfl (by omega)
  refine ⟨h.1, h.2.trans ?_⟩
  omega

theorem leap_ok (y : Int) (t : Tok) (h0 : 0 ≤ y) (h1 : y ≤ 2000000000) : Cl 1 8 49 [.int y t] (IsB (leapB y)) := by
  intro w mean mg mb dp un gd cn cs a ccd cl outer A₀ base h₀ L m news s Q E B F X N T hk hd hu hret
  refine wpAny_call ?_
  k_dflt cell_enter
  k_steps
  all_goals (refine cl_ret (Q := Q) hret ?_ (by k_asm) (by k_asm))
  all_goals (unfold leapB; rw [Int.fmod_eq_emod_of_nonneg _ (by omega)]; exact rfl)

local macro_rules | `(tactic| walk_at "call builtin:math.floor") => `(tactic| (
  (with_reducible show wpAny _ _ (call _ [Value.float _ _]) _ _ _);
  first
  | refine my_floor rfl (floor_19 (by omega) (by omega)) ?_
  | refine my_floor rfl (floor_25920 (by omega) (by omega)) ?_))
theorem d1_ok' (y : Int) (t : Tok) (h0 : 1 ≤ y) (h1 : y ≤ 2000000000) : Cl 1 8 63 [.int y t] (IsI (fun d => d = d1 y)) := by
  intro w mean mg mb dp un gd cn cs a ccd cl outer A₀ base h₀ L m news s Q E B F X N T hk hd hu hret
  refine wpAny_call ?_
  k_dflt cell_enter
  k_steps
  all_goals (refine cl_ret (Q := Q) hret ?_ (by k_asm) (by k_asm))
  all_goals (refine ⟨_, _, rfl, ?_⟩)
  all_goals (unfold d1 dd mo; simp only [decide_eq_true_eq, decide_eq_false_iff_not, Int.fmod_eq_emod_of_nonneg _ (show (0:Int) ≤ 7 by decide)] at *; split <;> omega)
local macro_rules | `(tactic| walk_at "call builtin:math.floor") => `(tactic| (
  (with_reducible show wpAny _ _ (call _ [Value.float _ _]) _ _ _);
  first
  | k_dflt (refine' my_floor (q := -13) ?a ?b ?_; (case a => rfl); (case b => decide +kernel))
  | k_dflt (refine' my_floor (q := -7) ?a ?b ?_; (case a => rfl); (case b => decide +kernel))))
theorem d1_ok0 (t : Tok) : Cl 1 8 63 [.int 0 t] (IsI (fun d => d = d1 0)) := by
  intro w mean mg mb dp un gd cn cs a ccd cl outer A₀ base h₀ L m news s Q E B F X N T hk hd hu hret
  refine wpAny_call ?_
  k_dflt cell_enter
  k_steps
  all_goals (refine cl_ret (Q := Q) hret ?_ (by k_asm) (by k_asm))
  all_goals (refine ⟨_, _, rfl, ?_⟩)
  all_goals first | decide +kernel | (exfalso; simp at *; done)
theorem d1_ok (y : Int) (t : Tok) (h0 : 0 ≤ y) (h1 : y ≤ 2000000000) : Cl 1 8 63 [.int y t] (IsI (fun d => d = d1 y)) := by
  by_cases h : y = 0
  · subst h; exact d1_ok0 t
  · exact d1_ok' y t (by omega) h1
end Mine
end

section
open PySem PySem.W PyProof.Rows
set_option Elab.async false
set_option maxRecDepth 100000 
set_option maxHeartbeats 8000000 
namespace Mine
theorem fillme2 : PySem.Challenge.rw_bd6013_02.prog = PySem.Challenge.rw_bd6013_02.prog ∧ Mine.hd2.heap_39 = Mine.hd2.heap_39 := by
  k_fill
  exact ⟨rfl, rfl⟩

section rules
variable {prog : Program} {w : World} {A : Around} {E : Value → Shared → Prop} {s : Shared} {Q : Value → Shared → Prop} {x y : UInt64} {t u : Tok} {n k l : Int}
theorem my_over (h : n.natAbs < 2 ^ 50) : ¬ Flt.Over n := by
  unfold Flt.Over
  have : (2 : Nat) ^ 50 < 2 ^ 1024 - 2 ^ 970 := by decide +kernel
  omega
theorem my_add_fi (hA : A.handled = none) (hx : x = hf k) (h0 : 0 < k) (h1 : k < 2 ^ 50) (h2 : 0 ≤ n) (h3 : n < 2 ^ 50) (h : Q (.float (hf (k + 2 * n)) s.toks) { s with toks := s.toks + 1 }) :
    wpAny (model prog w) A (binaryOp .Add (.float x t) (.int n u)) Q E s := by
  subst hx
  refine add_fi_sharp hA (fun h => absurd h ?_) (fun _ => ?_)
  · have : (2 : Nat) ^ 50 < 2 ^ 1024 - 2 ^ 970 := by decide +kernel
    omega
  · rw [ofInt_hf (by omega), add_hf (by omega) (by omega) (by omega) (by omega)]; exact h
theorem my_iadd_fi (hA : A.handled = none) (hx : x = hf k) (h0 : 0 < k) (h1 : k < 2 ^ 50) (h2 : 0 ≤ n) (h3 : n < 2 ^ 50) (h : Q (.float (hf (k + 2 * n)) s.toks) { s with toks := s.toks + 1 }) :
    wpAny (model prog w) A (inplaceOp .Add (.float x t) (.int n u)) Q E s := by
  subst hx
  refine Flt.iadd_fi hA (fun h => absurd h (my_over (by omega))) (fun _ => ?_)
  rw [ofInt_hf (by omega), add_hf (by omega) (by omega) (by omega) (by omega)]; exact h
theorem my_add_if (hA : A.handled = none) (hx : x = hf k) (h0 : 0 < k) (h1 : k < 2 ^ 50) (h2 : 0 ≤ n) (h3 : n < 2 ^ 50) (h : Q (.float (hf (2 * n + k)) s.toks) { s with toks := s.toks + 1 }) :
    wpAny (model prog w) A (binaryOp .Add (.int n u) (.float x t)) Q E s := by
  subst hx
  refine add_if_sharp hA (fun h => absurd h ?_) (fun _ => ?_)
  · have : (2 : Nat) ^ 50 < 2 ^ 1024 - 2 ^ 970 := by decide +kernel
    omega
  · rw [ofInt_hf (by omega), add_hf (by omega) (by omega) (by omega) (by omega)]; exact h
theorem my_sub_ff (hx : x = hf k) (hy : y = hf l) (h0 : 0 < k) (h1 : k < 2 ^ 50) (h2 : 0 < l) (h3 : l < 2 ^ 50) (h4 : k ≠ l) (h : Q (.float (hf (k - l)) s.toks) { s with toks := s.toks + 1 }) :
    wpAny (model prog w) A (binaryOp .Sub (.float x t) (.float y u)) Q E s := by
  subst hx hy
  refine sub_float ?_
  rw [sub_hf (by omega) (by omega) (by omega) (by omega)]; exact h
theorem my_int_f (hA : A.handled = none) (hx : x = hf k) (h0 : 0 ≤ k) (h1 : k < 2 ^ 50) (h : Q (.int (k / 2) s.toks) { s with toks := s.toks + 1 }) :
    wpAny (model prog w) A (call (.type "int") [.float x t]) Q E s := by
  subst hx
  have hf := hf_finite (k := k) (by omega)
  refine Flt.call_int_float3 hA (fun hn => absurd (Flt.not_nan_of_finite hf) (by rw [hn]; decide)) (fun hn => absurd (Flt.not_inf_of_finite hf) (by rw [hn]; decide)) (fun _ => ?_)
  rw [trunc_hf h0 (by omega)]; exact h
theorem my_mul_2f (hA : A.handled = none) (hx : x = hf k) (h0 : 0 ≤ k) (h1 : k < 2 ^ 49) (h : Q (.float (hf (2 * k)) s.toks) { s with toks := s.toks + 1 }) :
    wpAny (model prog w) A (binaryOp .Mult (.int 2 u) (.float x t)) Q E s := by
  subst hx
  refine mul_if_sharp hA (fun h => absurd h ?_) (fun _ => ?_)
  · have : (2 : Nat) ^ 50 < 2 ^ 1024 - 2 ^ 970 := by decide +kernel
    have e : Int.natAbs 2 = 2 := rfl
    omega
  · rw [mul2_hf (by omega)]; exact h
theorem my_mod_fi (hA : A.handled = none) (hx : x = hf k) (h0 : 0 ≤ k) (h1 : k < 2 ^ 50) (h2 : 0 < n) (h3 : n < 2 ^ 50) (h : Q (.float (hf (k % (2 * n))) s.toks) { s with toks := s.toks + 1 }) :
    wpAny (model prog w) A (binaryOp .Mod (.float x t) (.int n u)) Q E s := by
  subst hx
  refine Flt.mod_fi hA (fun h => absurd h (my_over (by omega))) (fun h => absurd h (by omega)) (fun _ _ => ?_)
  rw [mod_hf h0 (by omega) h2 (by omega)]; exact h
theorem cmp_eq_hf (h1 : k.natAbs < 2 ^ 50) : (Float64.cmpInt (hf k) n == some Ordering.eq) = decide (k = 2 * n) := by
  rw [cmpInt_hf (by omega)]
  by_cases h : k = 2 * n
  · rw [h]; simp
  · rw [decide_eq_false h]
    rcases Int.lt_or_gt_of_ne h with h | h
    · rw [Int.compare_eq_lt.mpr h]; rfl
    · rw [Int.compare_eq_gt.mpr h]; rfl
theorem my_ne_fi (hx : x = hf k) (h1 : k.natAbs < 2 ^ 50) (h : Q (.bool (decide (k ≠ 2 * n))) s) :
    wpAny (model prog w) A (compareOp .NotEq (.float x t) (.int n u)) Q E s := by
  subst hx
  refine ne_fi ?_
  rw [bne, cmp_eq_hf h1, ← decide_not]; exact h
theorem my_eq_fi (hx : x = hf k) (h1 : k.natAbs < 2 ^ 50) (h : Q (.bool (decide (k = 2 * n))) s) :
    wpAny (model prog w) A (compareOp .Eq (.float x t) (.int n u)) Q E s := by
  subst hx
  refine eq_fi ?_
  rw [cmp_eq_hf h1]; exact h
end rules
local macro_rules | `(tactic| walk_at "binaryOp Add float int") => `(tactic| k_dflt (refine' my_add_fi ?a ?x ?p0 ?p1 ?p2 ?p3 ?_; (case a => rfl); (case x => first | exact rfl | exact epoch_hf | exact half_hf); (case p0 => omega); (case p1 => omega); (case p2 => omega); (case p3 => omega)))
local macro_rules | `(tactic| walk_at "inplaceOp Add float int") => `(tactic| k_dflt (refine' my_iadd_fi ?a ?x ?p0 ?p1 ?p2 ?p3 ?_; (case a => rfl); (case x => first | exact rfl | exact epoch_hf | exact half_hf); (case p0 => omega); (case p1 => omega); (case p2 => omega); (case p3 => omega)))
local macro_rules | `(tactic| walk_at "binaryOp Add int float") => `(tactic| k_dflt (refine' my_add_if ?a ?x ?p0 ?p1 ?p2 ?p3 ?_; (case a => rfl); (case x => first | exact rfl | exact epoch_hf | exact half_hf); (case p0 => omega); (case p1 => omega); (case p2 => omega); (case p3 => omega)))
local macro_rules | `(tactic| walk_at "binaryOp Sub float float") => `(tactic| k_dflt (refine' my_sub_ff ?x ?y ?p0 ?p1 ?p2 ?p3 ?p4 ?_; (case x => exact rfl); (case y => exact rfl); (case p0 => omega); (case p1 => omega); (case p2 => omega); (case p3 => omega); (case p4 => omega)))
local macro_rules | `(tactic| walk_at "call type:int") => `(tactic| ((with_reducible show wpAny _ _ (call _ [Value.float _ _]) _ _ _); k_dflt (refine' my_int_f ?a ?x ?p0 ?p1 ?_; (case a => rfl); (case x => exact rfl); (case p0 => omega); (case p1 => omega))))
local macro_rules | `(tactic| walk_at "binaryOp Mult int float") => `(tactic| k_dflt (refine' my_mul_2f ?a ?x ?p0 ?p1 ?_; (case a => rfl); (case x => exact rfl); (case p0 => omega); (case p1 => omega)))
local macro_rules | `(tactic| walk_at "binaryOp Mod float int") => `(tactic| k_dflt (refine' my_mod_fi ?a ?x ?p0 ?p1 ?p2 ?p3 ?_; (case a => rfl); (case x => exact rfl); (case p0 => omega); (case p1 => omega); (case p2 => omega); (case p3 => omega)))
local macro_rules | `(tactic| walk_at "compareOp NotEq float int") => `(tactic| k_dflt (refine' my_ne_fi ?x ?p0 ?_; (case x => exact rfl); (case p0 => omega)))
local macro_rules | `(tactic| walk_at "compareOp Eq float int") => `(tactic| k_dflt (refine' my_eq_fi ?x ?p0 ?_; (case x => exact rfl); (case p0 => omega)))

theorem d1_bd {y : Int} (h0 : 0 ≤ y) (h1 : y ≤ 2000000000) : -1000 ≤ d1 y ∧ d1 y ≤ 1000000000000 ∧ (1 ≤ y → 0 ≤ d1 y) := by
  unfold d1
  rw [dd_eq]
  unfold mo
  split <;> omega
theorem d2_bd (y : Int) : 0 ≤ d2 y ∧ d2 y ≤ 2 := by
  unfold d2; (repeat' split) <;> omega
theorem d1_okb (y : Int) (t : Tok) (h0 : 0 ≤ y) (h1 : y ≤ 2000000000) : Cl 1 8 63 [.int y t] (IsI (fun d => d = d1 y ∧ -1000 ≤ d ∧ d ≤ 1000000000000 ∧ (1 ≤ y → 0 ≤ d))) := by
  have h := d1_ok y t h0 h1
  intro w mean mg mb dp un gd cn cs a ccd cl outer A₀ base h₀ L m news s Q E B F X N T hk hd hu hret
  refine h w mean mg mb dp un gd cn cs a ccd cl outer A₀ base h₀ L m news s Q E B F X N T hk hd hu (fun v h' tk' hv F' N' => hret v h' tk' ?_ F' N')
  obtain ⟨d, t', rfl, hd'⟩ := hv
  have hd' : d = d1 y := hd'
  subst hd'
  exact ⟨_, _, rfl, rfl, d1_bd h0 h1⟩
local macro_rules | `(tactic| walk_at "call ref") => `(tactic| (k_here; k_dflt (first
  | (refine' cl_use (d1_okb _ _ ?p0 ?p1) ?k1 ?k2 ?k3 ?k4 ?k5 ?kK ?kd ?ku ?_; (case p0 => first | omega | assumption); (case p1 => first | omega | assumption); (case k1 => k_asm); (case k2 => k_asm); (case k3 => k_asm); (case k4 => k_asm); (case k5 => k_asm); (case kK => first | exact rfl | assumption); (case kd => ktr_room); (case ku => ktr_units); intro v9 h9 tk9 hv9 F9 N9; obtain ⟨d9, t9, hv9, hd9⟩ := hv9; subst hv9; (try dsimp only at hd9); (try dsimp only); (try k_fold); (try k_sweep))
  | (refine' cl_use (leap_ok _ _ ?p0 ?p1) ?k1 ?k2 ?k3 ?k4 ?k5 ?kK ?kd ?ku ?_; (case p0 => first | omega | assumption); (case p1 => first | omega | assumption); (case k1 => k_asm); (case k2 => k_asm); (case k3 => k_asm); (case k4 => k_asm); (case k5 => k_asm); (case kK => first | exact rfl | assumption); (case kd => ktr_room); (case ku => ktr_units); intro v9 h9 tk9 hv9 F9 N9; subst hv9; (try dsimp only); (try k_fold); (try k_sweep)))))

theorem d2_ok (y : Int) (t : Tok) (h0 : 1 ≤ y) (h1 : y ≤ 1900000000) : Cl 2 16 70 [.int y t] (IsI (fun d => d = d2 y ∧ 0 ≤ d ∧ d ≤ 2)) := by
  intro w mean mg mb dp un gd cn cs a ccd cl outer A₀ base h₀ L m news s Q E B F X N T hk hd hu hret
  refine wpAny_call ?_
  k_dflt cell_enter
  k_steps
  all_goals (refine cl_ret (Q := Q) hret ?_ (by k_asm) (by first | k_asm | (refine' cb_drop ?cbN ?cbS; (case cbN => assumption); (case cbS => kcj_all))))
  all_goals (refine ⟨_, _, rfl, ?_⟩)
  all_goals (simp only [decide_eq_true_eq, decide_eq_false_iff_not] at *; have hb := d2_bd y; unfold d2 at *; (repeat' split) <;> omega)
theorem ym_ok (y : Int) (t : Tok) (h0 : 1 ≤ y) (h1 : y ≤ 1900000000) : Cl 2 16 56 [.int y t] (IsI (fun d => d = if leapB y = true then 13 else 12)) := by
  intro w mean mg mb dp un gd cn cs a ccd cl outer A₀ base h₀ L m news s Q E B F X N T hk hd hu hret
  refine wpAny_call ?_
  k_dflt cell_enter
  k_steps
  all_goals (refine cl_ret (Q := Q) hret ?_ (by k_asm) (by first | k_asm | (refine' cb_drop ?cbN ?cbS; (case cbN => assumption); (case cbS => kcj_all))))
  all_goals (refine ⟨_, _, rfl, ?_⟩)
  all_goals (dsimp only; simp [*]; done)
local macro_rules | `(tactic| walk_at "call ref") => `(tactic| (k_here; k_dflt (first
  | (refine' cl_use (d2_ok _ _ ?p0 ?p1) ?k1 ?k2 ?k3 ?k4 ?k5 ?kK ?kd ?ku ?_; (case p0 => first | omega | assumption); (case p1 => first | omega | assumption); (case k1 => k_asm); (case k2 => k_asm); (case k3 => k_asm); (case k4 => k_asm); (case k5 => k_asm); (case kK => first | exact rfl | assumption); (case kd => ktr_room); (case ku => ktr_units); intro v9 h9 tk9 hv9 F9 N9; obtain ⟨d9, t9, hv9, hd9⟩ := hv9; subst hv9; (try dsimp only at hd9); (try dsimp only); (try k_fold); (try k_sweep))
  | (refine' cl_use (ym_ok _ _ ?p0 ?p1) ?k1 ?k2 ?k3 ?k4 ?k5 ?kK ?kd ?ku ?_; (case p0 => first | omega | assumption); (case p1 => first | omega | assumption); (case k1 => k_asm); (case k2 => k_asm); (case k3 => k_asm); (case k4 => k_asm); (case k5 => k_asm); (case kK => first | exact rfl | assumption); (case kd => ktr_room); (case ku => ktr_units); intro v9 h9 tk9 hv9 F9 N9; obtain ⟨d9, t9, hv9, hd9⟩ := hv9; subst hv9; (try dsimp only at hd9); (try dsimp only); (try k_fold); (try k_sweep)))))

theorem jd7_ok (y : Int) (t t1 t2 : Tok) (h0 : 1 ≤ y) (h1 : y ≤ 1800000000) : Cl 3 24 98 [.int y t, .int 7 t1, .int 1 t2] (IsF (fun k => k = 2 * (347997 + ny y) + 1 ∧ 0 < k ∧ k < 2 ^ 45)) := by
  intro w mean mg mb dp un gd cn cs a ccd cl outer A₀ base h₀ L m news s Q E B F X N T hk hd hu hret
  refine wpAny_call ?_
  k_dflt cell_enter
  k_steps
  all_goals (refine cl_ret (Q := Q) hret ?_ (by k_asm) (by first | k_asm | (refine' cb_drop ?cbN ?cbS; (case cbN => assumption); (case cbS => kcj_all))))
  all_goals (refine ⟨_, _, rfl, ?_⟩)
  all_goals (dsimp only; unfold ny; omega)
theorem yd_bd (y : Int) : 353 ≤ ny (y + 1) - ny y ∧ ny (y + 1) - ny y ≤ 385 := by
  have := kind y
  unfold Kind at this
  omega
local macro_rules | `(tactic| walk_at "call ref") => `(tactic| (k_here; k_dflt (first
  | (refine' cl_use (jd7_ok _ _ _ _ ?p0 ?p1) ?k1 ?k2 ?k3 ?k4 ?k5 ?kK ?kd ?ku ?_; (case p0 => first | omega | assumption); (case p1 => first | omega | assumption); (case k1 => k_asm); (case k2 => k_asm); (case k3 => k_asm); (case k4 => k_asm); (case k5 => k_asm); (case kK => first | exact rfl | assumption); (case kd => ktr_room); (case ku => ktr_units); intro v9 h9 tk9 hv9 F9 N9; obtain ⟨d9, t9, hv9, hd9⟩ := hv9; subst hv9; (try dsimp only at hd9); (try dsimp only); (try k_fold); (try k_sweep)))))

theorem yd_ok (y : Int) (t : Tok) (h0 : 1 ≤ y) (h1 : y ≤ 1700000000) : Cl 4 32 77 [.int y t] (IsF (fun k => k = 2 * (ny (y + 1) - ny y) ∧ 706 ≤ k ∧ k ≤ 770)) := by
  have hb := yd_bd y
  intro w mean mg mb dp un gd cn cs a ccd cl outer A₀ base h₀ L m news s Q E B F X N T hk hd hu hret
  refine wpAny_call ?_
  k_dflt cell_enter
  k_steps
  all_goals (refine cl_ret (Q := Q) hret ?_ (by k_asm) (by first | k_asm | (refine' cb_drop ?cbN ?cbS; (case cbN => assumption); (case cbS => kcj_all))))
  all_goals (refine ⟨_, _, rfl, ?_⟩)
  all_goals (dsimp only; omega)
local macro_rules | `(tactic| walk_at "call ref") => `(tactic| (k_here; k_dflt (first
  | (refine' cl_use (yd_ok _ _ ?p0 ?p1) ?k1 ?k2 ?k3 ?k4 ?k5 ?kK ?kd ?ku ?_; (case p0 => first | omega | assumption); (case p1 => first | omega | assumption); (case k1 => k_asm); (case k2 => k_asm); (case k3 => k_asm); (case k4 => k_asm); (case k5 => k_asm); (case kK => first | exact rfl | assumption); (case kd => ktr_room); (case ku => ktr_units); intro v9 h9 tk9 hv9 F9 N9; obtain ⟨d9, t9, hv9, hd9⟩ := hv9; subst hv9; (try dsimp only at hd9); (try dsimp only); (try k_fold); (try k_sweep)))))
end Mine
end

section
open PySem PySem.W PyProof.Rows
set_option maxRecDepth 100000 
namespace Mine
/-- rows of four ints, each a tuple of the ledger -/
inductive RowsIn (led : List (Addr × Obj)) : List Value → List (Int × Int × Int × Int) → Prop where
  | nil : RowsIn led [] []
  | cons {a : Addr} {r0 r1 r2 r3 : Int} {t0 t1 t2 t3 : Tok} {vs : List Value} {rs : List (Int × Int × Int × Int)} (h : (a, ({ cls := .type "tuple", data := .seq #[.int r0 t0, .int r1 t1, .int r2 t2, .int r3 t3] } : Obj)) ∈ led)
      (t : RowsIn led vs rs) : RowsIn led (.ref a :: vs) ((r0, r1, r2, r3) :: rs)
theorem RowsIn.get {led : List (Addr × Obj)} {vs : List Value} {rs : List (Int × Int × Int × Int)} (h : RowsIn led vs rs) : ∀ i, i < rs.length → ∃ a t0 t1 t2 t3, vs[i]? = some (.ref a) ∧
    (a, ({ cls := .type "tuple", data := .seq #[.int (rs.getD i (0, 0, 0, 0)).1 t0, .int (rs.getD i (0, 0, 0, 0)).2.1 t1, .int (rs.getD i (0, 0, 0, 0)).2.2.1 t2, .int (rs.getD i (0, 0, 0, 0)).2.2.2 t3] } : Obj)) ∈ led := by
  induction h with
  | nil => intro i hi; exact absurd hi (Nat.not_lt_zero _)
  | cons hm _ ih =>
    intro i hi
    cases i with
    | zero => exact ⟨_, _, _, _, _, rfl, hm⟩
    | succ i =>
      obtain ⟨a, t0, t1, t2, t3, e, hm'⟩ := ih i (by simpa using hi)
      exact ⟨a, t0, t1, t2, t3, by simpa using e, by simpa using hm'⟩
theorem RowsIn.length {led : List (Addr × Obj)} {vs : List Value} {rs : List (Int × Int × Int × Int)} (h : RowsIn led vs rs) : vs.length = rs.length := by
  induction h with
  | nil => rfl
  | cons _ _ ih => simp [ih]
section loop
variable {prog : Program} {w : World} {A : Around} {E : Value → Shared → Prop} {s : Shared} {env : Env} {h₀ : Heap} {x : Str} {body : List Stmt} {Q : Flow → Shared → Prop}
def REnd (h₀ : Heap) (L : Addr) (x : Str) (m₀ : Str → Option Value) (P : Prop) (led : List (Addr × Obj)) (s₁ s₂ : Shared) : Prop :=
  ∃ h' tk m', s₂ = { s₁ with heap := h', toks := tk } ∧ Fr h₀ L h' m' ∧ News h₀ L h' led ∧ P ∧ ∀ z, z ≠ x → m' z = m₀ z
def RPost (h₀ : Heap) (L : Addr) (x : Str) (m₀ : Str → Option Value) (P : Prop) (led : List (Addr × Obj)) (s₁ : Shared) (Q : Flow → Shared → Prop) (f : Flow) (s₂ : Shared) : Prop :=
  match f with
  | .ret v => Q (.ret v) s₂
  | .brk => Q .next s₂
  | _ => REnd h₀ L x m₀ P led s₁ s₂
theorem REnd.intro {L : Addr} {m₀ m' : Str → Option Value} {led : List (Addr × Obj)} {s₁ : Shared} {h' : Heap} {tk : Nat} {P : Prop} (F : Fr h₀ L h' m') (N : News h₀ L h' led)
    (hP : P) (hm : ∀ z, z ≠ x → m' z = m₀ z) : REnd h₀ L x m₀ P led s₁ { s₁ with heap := h', toks := tk } := ⟨h', tk, m', rfl, F, N, hP, hm⟩
theorem map_row {m₁ m₀ : Str → Option Value} {v : Value} (hm : ∀ z, z ≠ x → m₁ z = m₀ z) : (fun z => if z = x then some v else m₁ z) = fun z => if z = x then some v else m₀ z := by
  funext z
  by_cases h1 : z = x
  · rw [if_pos h1, if_pos h1]
  · rw [if_neg h1, if_neg h1]; exact hm z h1
theorem map_row' {m₁ m₀ : Str → Option Value} (hm : ∀ z, z ≠ x → m₁ z = m₀ z) : m₁ = fun z => if z = x then m₁ z else m₀ z := by
  funext z
  by_cases h1 : z = x
  · rw [if_pos h1]
  · rw [if_neg h1]; exact hm z h1
theorem rest_rows {I l : Addr} {lo : Obj} {m₀ : Str → Option Value} {led : List (Addr × Obj)} (M : Int × Int × Int × Int → Prop) (hoff : ∀ p ∈ (l, lo) :: led, p.1 < I)
    (turn : ∀ (r0 r1 r2 r3 : Int) (t0 t1 t2 t3 : Tok) (a : Addr) (it : Obj) h tk, it.cls = .type "list_iterator" → IsTup h a #[.int r0 t0, .int r1 t1, .int r2 t2, .int r3 t3] → Fr h₀ env.locals h (fun z => if z = x then some (.ref a) else m₀ z) → News h₀ env.locals h ((I, it) :: (l, lo) :: led) →
      wpAny (model prog w) A (execs body env) (RPost h₀ env.locals x m₀ (¬ M (r0, r1, r2, r3)) ((I, it) :: (l, lo) :: led) { s with heap := h, toks := tk } Q) E { s with heap := h, toks := tk })
    (all : List (Int × Int × Int × Int)) (done : (∀ r ∈ all, ¬ M r) → ∀ (u : Str → Option Value) h tk, Fr h₀ env.locals h (fun z => if z = x then u z else m₀ z) → News h₀ env.locals h ((l, lo) :: led) → Q .next { s with heap := h, toks := tk }) :
    ∀ vs rs pre m₁, RowsIn led vs rs → all = pre ++ rs → (∀ r ∈ pre, ¬ M r) → (∀ z, z ≠ x → m₁ z = m₀ z) → ListRest prog w A E h₀ env x body Q s I (l, lo) vs m₁ ((l, lo) :: led) := by
  intro vs
  induction vs with
  | nil =>
    intro rs pre m₁ hr ha hp hm
    cases hr
    refine ListRest.zero fun h tk F N => ?_
    rw [map_row' hm] at F
    rw [List.append_nil] at ha
    exact done (ha ▸ hp) m₁ h tk F N
  | cons v vs ih =>
    intro rs pre m₁ hr ha hp hm
    cases hr with
    | cons hmem ht =>
    rename_i a r0 r1 r2 r3 t0 t1 t2 t3 rs
    refine ListRest.succ fun it h tk hit F N => ?_
    rw [map_row hm] at F
    have hT : IsTup h a #[.int r0 t0, .int r1 t1, .int r2 t2, .int r3 t3] := News.isTup N (.tail _ (.tail _ hmem))
    refine wpAny_mono (turn r0 r1 r2 r3 t0 t1 t2 t3 a it h tk hit hT F N) (fun f s₂ p => ?_) fun _ _ e => e
    have fin : REnd h₀ env.locals x m₀ (¬ M (r0, r1, r2, r3)) ((I, it) :: (l, lo) :: led) { s with heap := h, toks := tk } s₂ →
        UnrEnd h₀ env.locals { s with heap := h, toks := tk } I it (fun m' n' => (l, lo) ∈ n' ∧ ListRest prog w A E h₀ env x body Q s I (l, lo) vs m' n') s₂ := by
      rintro ⟨h', tk', m', rfl, F', N', hP, hm'⟩
      refine ⟨h', tk', m', (l, lo) :: led, rfl, F', N', fun p hp => Nat.ne_of_lt (hoff p hp), .head _, ih rs (pre ++ [(r0, r1, r2, r3)]) m' ht (by rw [ha]; simp) ?_ hm'⟩
      intro r hr
      rcases List.mem_append.mp hr with h1 | h1
      · exact hp r h1
      · rw [List.mem_singleton.mp h1]; exact hP
    cases f with
    | ret v => exact p
    | brk => exact p
    | next => exact fin p
    | cont => exact fin p
structure Sought (p q r : Int) : Prop where
theorem iter_rows {l : Addr} {xs : List Value} {rows : List (Int × Int × Int × Int)} {m₀ : Str → Option Value} {led : List (Addr × Obj)} {p q r : Int} (_ : Sought p q r) (RI : RowsIn led xs rows)
    (hh : A.handled = none) (F : Fr h₀ env.locals s.heap m₀) (N : News h₀ env.locals s.heap ((l, W.listOf xs.toArray 0) :: led))
    (turn : ∀ (I : Addr) (r0 r1 r2 r3 : Int) (t0 t1 t2 t3 : Tok) (a : Addr) (it : Obj) h tk, it.cls = .type "list_iterator" → IsTup h a #[.int r0 t0, .int r1 t1, .int r2 t2, .int r3 t3] → Fr h₀ env.locals h (fun z => if z = x then some (.ref a) else m₀ z) → News h₀ env.locals h ((I, it) :: (l, W.listOf xs.toArray 0) :: led) →
      wpAny (model prog w) A (execs body env) (RPost h₀ env.locals x m₀ (¬ (r0 = p ∧ r1 = q ∧ r2 = r)) ((I, it) :: (l, W.listOf xs.toArray 0) :: led) { s with heap := h, toks := tk } Q) E { s with heap := h, toks := tk })
    (done : (∀ o ∈ rows, ¬ (o.1 = p ∧ o.2.1 = q ∧ o.2.2.1 = r)) → ∀ (u : Str → Option Value) h tk, Fr h₀ env.locals h (fun z => if z = x then u z else m₀ z) → News h₀ env.locals h ((l, W.listOf xs.toArray 0) :: led) → Q .next { s with heap := h, toks := tk }) :
    wpAny (model prog w) A (pyIter (.ref l)) (fun it s₂ => LoopAtV prog w A h₀ env x body Q E it s₂) E s := by
  refine iter_listUnr (n := 0) hh F N (.head _) rfl rfl (fun I hI => ?_)
  exact rest_rows (fun o => o.1 = p ∧ o.2.1 = q ∧ o.2.2.1 = r) hI (fun r0 r1 r2 r3 t0 t1 t2 t3 a it h tk => turn I r0 r1 r2 r3 t0 t1 t2 t3 a it h tk) rows done xs rows [] m₀ RI rfl (fun _ h => nomatch h) (fun _ _ => rfl)
end loop
end Mine
end

section
open PySem PySem.W PyProof.Rows
set_option maxRecDepth 100000 
namespace Mine
structure Yr2 (y : Int) : Prop where
def countS (p c k : Int) : Int := if k ≤ p then c + 1 else c
theorem count_mo (y : Int) : [3, 6, 8, 11, 14, 17, 19].foldl (countS ((y - 1).fmod 19)) (235 * (y - 1).fdiv 19 + 12 * (y - 1).fmod 19) = mo y := by
  have hp := Int.fmod_eq_emod_of_nonneg (y - 1) (show (0:Int) ≤ 19 by decide)
  have hq := Int.fdiv_eq_ediv_of_nonneg (y - 1) (show (0:Int) ≤ 19 by decide)
  rw [hp, hq]
  simp only [List.foldl]
  have e : y = 19 * ((y - 1) / 19) + (y - 1) % 19 + 1 := by omega
  have b0 : 0 ≤ (y - 1) % 19 := by omega
  have b1 : (y - 1) % 19 < 19 := by omega
  generalize (y - 1) / 19 = q at *
  generalize (y - 1) % 19 = p at *
  subst e
  have hc : p = 0 ∨ p = 1 ∨ p = 2 ∨ p = 3 ∨ p = 4 ∨ p = 5 ∨ p = 6 ∨ p = 7 ∨ p = 8 ∨ p = 9 ∨ p = 10 ∨ p = 11 ∨ p = 12 ∨ p = 13 ∨ p = 14 ∨ p = 15 ∨ p = 16 ∨ p = 17 ∨ p = 18 := by omega
  unfold mo countS
  rcases hc with rfl | rfl | rfl | rfl | rfl | rfl | rfl | rfl | rfl | rfl | rfl | rfl | rfl | rfl | rfl | rfl | rfl | rfl | rfl <;> simp <;> omega
section loop
variable {prog : Program} {w : World} {A : Around} {E : Value → Shared → Prop} {s : Shared} {env : Env} {h₀ : Heap} {x y : Str} {target : Expr} {body : List Stmt} {Q : Flow → Shared → Prop}
def TEnd (h₀ : Heap) (L : Addr) (x y : Str) (m₀ : Str → Option Value) (c : Int) (led : List (Addr × Obj)) (s₁ s₂ : Shared) : Prop :=
  ∃ h' tk m' t', s₂ = { s₁ with heap := h', toks := tk } ∧ Fr h₀ L h' m' ∧ News h₀ L h' led ∧ m' y = some (.int c t') ∧ ∀ z, z ≠ x → z ≠ y → m' z = m₀ z
def TPost (h₀ : Heap) (L : Addr) (x y : Str) (m₀ : Str → Option Value) (c : Int) (led : List (Addr × Obj)) (s₁ : Shared) (Q : Flow → Shared → Prop) (f : Flow) (s₂ : Shared) : Prop :=
  match f with
  | .ret v => Q (.ret v) s₂
  | .brk => Q .next s₂
  | _ => TEnd h₀ L x y m₀ c led s₁ s₂
theorem TEnd.intro {L : Addr} {m₀ m' : Str → Option Value} {led : List (Addr × Obj)} {s₁ : Shared} {h' : Heap} {tk : Nat} {c c' : Int} {t' : Tok} (F : Fr h₀ L h' m') (N : News h₀ L h' led)
    (hy : m' y = some (.int c' t')) (hP : c' = c) (hm : ∀ z, z ≠ x → z ≠ y → m' z = m₀ z) : TEnd h₀ L x y m₀ c led s₁ { s₁ with heap := h', toks := tk } := by
  subst hP; exact ⟨h', tk, m', t', rfl, F, N, hy, hm⟩
theorem map_tup {m₁ m₀ : Str → Option Value} {u : Value} (ha : m₁ y = some u) (hm : ∀ z, z ≠ x → z ≠ y → m₁ z = m₀ z) :
    m₁ = fun z => if z = x then m₁ z else if z = y then some u else m₀ z := by
  funext z
  by_cases h1 : z = x
  · rw [if_pos h1]
  · rw [if_neg h1]
    by_cases h2 : z = y
    · rw [if_pos h2, h2, ha]
    · rw [if_neg h2]; exact hm z h1 h2
theorem rest_tup {I ax : Addr} {lo : Obj} {m₀ : Str → Option Value} {news : List (Addr × Obj)} (g : Int → Int → Int) (hax : (ax, lo) ∈ news) (hoff : ∀ p ∈ news, p.1 < I)
    (turn : ∀ (k : Int) t c t' (u : Str → Option Value) it h tk, it.cls = .type "tuple_iterator" → Fr h₀ env.locals h (fun z => if z = x then u z else if z = y then some (.int c t') else m₀ z) → News h₀ env.locals h ((I, it) :: news) →
      wpAny (model prog w) A (assign target env (.int k t)) (fun _ s₂ => wpAny (model prog w) A (execs body env) (TPost h₀ env.locals x y m₀ (g c k) ((I, it) :: news) { s with heap := h, toks := tk } Q) E s₂) E { s with heap := h, toks := tk })
    {cEnd : Int} (done : ∀ (u : Str → Option Value) t' h tk, Fr h₀ env.locals h (fun z => if z = x then u z else if z = y then some (.int cEnd t') else m₀ z) → News h₀ env.locals h news → Q .next { s with heap := h, toks := tk }) :
    ∀ vs ks m₁ c t', IntsAre vs ks → ks.foldl g c = cEnd → m₁ y = some (.int c t') → (∀ z, z ≠ x → z ≠ y → m₁ z = m₀ z) →
      ItemsRest prog w A E h₀ env target body Q s [(I, "tuple_iterator")] [(ax, lo)] (vs.map .val) m₁ news := by
  intro vs
  induction vs with
  | nil =>
    intro ks m₁ c t' hi he hy hm
    cases hi
    refine ItemsRest.zero fun h tk F N => ?_
    rw [map_tup hy hm] at F
    have he : c = cEnd := he
    subst he
    exact done m₁ t' h tk F N
  | cons v vs ih =>
    intro ks m₁ c t' hi he hy hm
    cases hi with
    | cons k t hi' =>
    rename_i ks
    refine ItemsRest.val fun h tk F => AllObj.cons fun it hit => AllObj.nil fun N => ?_
    rw [map_tup hy hm] at F
    refine wpAny_mono (turn k t c t' m₁ it h tk hit F N) (fun _ s₂ p => wpAny_mono p (fun f s₃ p => ?_) fun _ _ e => e) fun _ _ e => e
    have fin : TEnd h₀ env.locals x y m₀ (g c k) ((I, it) :: news) { s with heap := h, toks := tk } s₃ →
        UnrEndW h₀ env.locals { s with heap := h, toks := tk } [(I, it)] (fun m' n' => SubL [(ax, lo)] n' ∧ ItemsRest prog w A E h₀ env target body Q s [(I, "tuple_iterator")] [(ax, lo)] (vs.map .val) m' n') s₃ := by
      rintro ⟨h', tk', m', t'', rfl, F', N', hy', hm'⟩
      refine ⟨h', tk', m', news, rfl, F', N', fun p hp q hq => ?_, ⟨hax, trivial⟩, ih ks m' (g c k) t'' hi' he hy' hm'⟩
      rw [List.mem_singleton.mp hq]
      exact Nat.ne_of_lt (hoff p hp)
    cases f with
    | ret v => exact p
    | brk => exact p
    | next => exact fin p
    | cont => exact fin p
theorem iter_mo {ax : Addr} {vs : List Value} {n : Nat} {m₀ : Str → Option Value} {news : List (Addr × Obj)} {Y : Int} {tc : Tok} (_ : Yr2 Y) (hh : A.handled = none) (F : Fr h₀ env.locals s.heap m₀) (N : News h₀ env.locals s.heap news)
    (hm : (ax, ({ cls := .type "tuple", data := .seq vs.toArray n } : Obj)) ∈ news) (hi : IntsAre vs [3, 6, 8, 11, 14, 17, 19]) (hy : m₀ y = some (.int (235 * (Y - 1).fdiv 19 + 12 * (Y - 1).fmod 19) tc))
    (turn : ∀ (I : Addr) (k : Int) t c t' (u : Str → Option Value) it h tk, it.cls = .type "tuple_iterator" → Fr h₀ env.locals h (fun z => if z = x then u z else if z = y then some (.int c t') else m₀ z) → News h₀ env.locals h ((I, it) :: news) →
      wpAny (model prog w) A (assign target env (.int k t)) (fun _ s₂ => wpAny (model prog w) A (execs body env) (TPost h₀ env.locals x y m₀ (countS ((Y - 1).fmod 19) c k) ((I, it) :: news) { s with heap := h, toks := tk } Q) E s₂) E { s with heap := h, toks := tk })
    (done : ∀ (u : Str → Option Value) t' h tk, Fr h₀ env.locals h (fun z => if z = x then u z else if z = y then some (.int (mo Y) t') else m₀ z) → News h₀ env.locals h news → Q .next { s with heap := h, toks := tk }) :
    wpAny (model prog w) A (pyIter (.ref ax)) (fun it s₂ => TurnsAt prog w A h₀ env target body Q E it s₂) E s := by
  refine iter_tupTurns hh F N hm rfl rfl (fun I hI => ?_)
  exact rest_tup (x := x) (y := y) (countS ((Y - 1).fmod 19)) hm hI (fun k t c t' u it h tk => turn I k t c t' u it h tk) done vs _ m₀ _ tc hi (count_mo Y) hy (fun _ _ _ => rfl)
end loop
end Mine
end

section
open PySem PySem.W PyProof.Rows
set_option Elab.async false
set_option maxRecDepth 100000 
set_option maxHeartbeats 8000000 
namespace Mine
theorem fillme3 : PySem.Challenge.rw_bd6013_02.prog = PySem.Challenge.rw_bd6013_02.prog ∧ Mine.hd2.heap_39 = Mine.hd2.heap_39 := by
  k_fill
  exact ⟨rfl, rfl⟩
local macro_rules | `(tactic| walk_at "binaryOp Add float int") => `(tactic| k_dflt (refine' my_add_fi ?a ?x ?p0 ?p1 ?p2 ?p3 ?_; (case a => rfl); (case x => first | exact rfl | exact epoch_hf | exact half_hf); (case p0 => omega); (case p1 => omega); (case p2 => omega); (case p3 => omega)))
local macro_rules | `(tactic| walk_at "inplaceOp Add float int") => `(tactic| k_dflt (refine' my_iadd_fi ?a ?x ?p0 ?p1 ?p2 ?p3 ?_; (case a => rfl); (case x => first | exact rfl | exact epoch_hf | exact half_hf); (case p0 => omega); (case p1 => omega); (case p2 => omega); (case p3 => omega)))
local macro_rules | `(tactic| walk_at "binaryOp Add int float") => `(tactic| k_dflt (refine' my_add_if ?a ?x ?p0 ?p1 ?p2 ?p3 ?_; (case a => rfl); (case x => first | exact rfl | exact epoch_hf | exact half_hf); (case p0 => omega); (case p1 => omega); (case p2 => omega); (case p3 => omega)))
local macro_rules | `(tactic| walk_at "binaryOp Sub float float") => `(tactic| k_dflt (refine' my_sub_ff ?x ?y ?p0 ?p1 ?p2 ?p3 ?p4 ?_; (case x => exact rfl); (case y => exact rfl); (case p0 => omega); (case p1 => omega); (case p2 => omega); (case p3 => omega); (case p4 => omega)))
local macro_rules | `(tactic| walk_at "call type:int") => `(tactic| ((with_reducible show wpAny _ _ (call _ [Value.float _ _]) _ _ _); k_dflt (refine' my_int_f ?a ?x ?p0 ?p1 ?_; (case a => rfl); (case x => exact rfl); (case p0 => omega); (case p1 => omega))))
local macro_rules | `(tactic| walk_at "binaryOp Mult int float") => `(tactic| k_dflt (refine' my_mul_2f ?a ?x ?p0 ?p1 ?_; (case a => rfl); (case x => exact rfl); (case p0 => omega); (case p1 => omega)))
local macro_rules | `(tactic| walk_at "binaryOp Mod float int") => `(tactic| k_dflt (refine' my_mod_fi ?a ?x ?p0 ?p1 ?p2 ?p3 ?_; (case a => rfl); (case x => exact rfl); (case p0 => omega); (case p1 => omega); (case p2 => omega); (case p3 => omega)))
local macro_rules | `(tactic| walk_at "compareOp NotEq float int") => `(tactic| k_dflt (refine' my_ne_fi ?x ?p0 ?_; (case x => exact rfl); (case p0 => omega)))
local macro_rules | `(tactic| walk_at "compareOp Eq float int") => `(tactic| k_dflt (refine' my_eq_fi ?x ?p0 ?_; (case x => exact rfl); (case p0 => omega)))
/-- the same with an empty ledger -/
def Cl0 (D U : Nat) (f : Addr) (vs : List Value) (R : Value → Prop) : Prop :=
  ∀ (w : World) (mean : ExcName → Option Value) (mg mb : Str → Option Value) (dp un : Nat) (gd : Option (List Code)) (cn : Str) (cs : Scope) (a : Addr) (ccd : Value) (cl : List (Str × Addr)) (outer : List Env) (A₀ : Around) (base h₀ : Heap) (L : Addr) (m : Str → Option Value) (s : Shared) (Q E : Value → Shared → Prop),
    Below A₀ base outer h₀ → Fr h₀ L s.heap m → (Mine.hd2.heap_39 w.params).In h₀ → News h₀ L s.heap [] → Top Mine.hd2.view_39 (looseW Mine.hd2.view_39 []) mean mg mb h₀ → cs.kind = .function →
    dp + D < recursionLimit → un + U < cLine → (∀ (v : Value) (h' : Heap) (tk' : Nat), R v → Fr h₀ L h' m → News h₀ L h' [] → Q v { s with heap := h', toks := tk' }) →
      wpAny (model PySem.Challenge.rw_bd6013_02.row.prog w) (ktrTop dp un gd cn cs L a ccd cl outer) (call (.ref f) vs) Q E s
theorem number_ok (k : Int) (t : Tok) (h0 : 0 < k) (h1 : k < 2 ^ 46) : Cl 1 8 133 [.float (hf k) t] (IsI (fun d => d = (k + 1) / 2)) := by
  intro w mean mg mb dp un gd cn cs a ccd cl outer A₀ base h₀ L m news s Q E B F X N T hk hd hu hret
  refine wpAny_call ?_
  k_dflt cell_enter
  k_steps
  all_goals (refine cl_ret (Q := Q) hret ?_ (by k_asm) (by first | k_asm | (refine' cb_drop ?cbN ?cbS; (case cbN => assumption); (case cbS => kcj_all))))
  all_goals (refine ⟨_, _, rfl, ?_⟩)
  all_goals (dsimp only; rw [Int.fdiv_eq_ediv_of_nonneg _ (by omega)]; omega)
theorem any_leap (y : Int) : ([3, 6, 8, 11, 14, 17, 19].any fun x => x == (y - 1).fmod 19 + 1) = leapB y := by
  rw [Int.fmod_eq_emod_of_nonneg _ (by omega)]
  unfold leapB
  simp only [List.any_cons, List.any_nil, Bool.or_false]
  obtain ⟨k, h⟩ := mod19 y
  rw [Bool.eq_iff_iff]
  simp only [Bool.or_eq_true, beq_iff_eq, decide_eq_true_eq]
  rcases h with rfl | rfl | rfl | rfl | rfl | rfl | rfl | rfl | rfl | rfl | rfl | rfl | rfl | rfl | rfl | rfl | rfl | rfl | rfl <;> omega
theorem long_ok (y : Int) (t : Tok) (h0 : 0 ≤ y) (h1 : y ≤ 1700000000) : Cl 1 8 119 [.int y t] (IsB (leapB y)) := by
  intro w mean mg mb dp un gd cn cs a ccd cl outer A₀ base h₀ L m news s Q E B F X N T hk hd hu hret
  refine wpAny_call ?_
  k_dflt cell_enter
  k_steps
  all_goals (refine cl_ret (Q := Q) hret ?_ (by k_asm) (by first | k_asm | (refine' cb_drop ?cbN ?cbS; (case cbN => assumption); (case cbS => kcj_all))))
  all_goals exact congrArg Value.bool (any_leap y)

theorem dd_fp (y : Int) : 12084 + 765433 * mo y = 25920 * dd y + fp y ∧ 0 ≤ fp y ∧ fp y < 25920 := by
  rw [dd_eq]; unfold fp; omega
theorem begin_late (y : Int) (h : 18 * 1080 ≤ (5 * 1080 + 204 + mo y * (29 * 25920 + 12 * 1080 + 793)) % 25920)
    (a : 0 ≠ ((5 * 1080 + 204 + mo y * (29 * 25920 + 12 * 1080 + 793)) / 25920 + 1 + 1) % 7 ∧ 3 ≠ ((5 * 1080 + 204 + mo y * (29 * 25920 + 12 * 1080 + 793)) / 25920 + 1 + 1) % 7 ∧ 5 ≠ ((5 * 1080 + 204 + mo y * (29 * 25920 + 12 * 1080 + 793)) / 25920 + 1 + 1) % 7) :
    347998 + ((5 * 1080 + 204 + mo y * (29 * 25920 + 12 * 1080 + 793)) / 25920 + 1) = 347998 + ny y := by
  have R := ny_rule y
  have G := dd_fp y
  have e1 : (5 * 1080 + 204 + mo y * (29 * 25920 + 12 * 1080 + 793)) / 25920 + 1 = dd y := by omega
  have e2 : fp y < 6480 := by omega
  rw [e1] at a ⊢
  clear e1 h G
  generalize dd y = d at *
  generalize fp y = f at *
  generalize ny y = n at *
  obtain ⟨a1, a2, a3⟩ := a
  rcases R with R | R | R | R | R | R | R | R | R <;> omega
local macro_rules | `(tactic| walk_at "call ref") => `(tactic| (k_here; k_dflt (first
  | (refine' cl_use (long_ok _ _ ?p0 ?p1) ?k1 ?k2 ?k3 ?k4 ?k5 ?kK ?kd ?ku ?_; (case p0 => first | omega | assumption); (case p1 => first | omega | assumption); (case k1 => k_asm); (case k2 => k_asm); (case k3 => k_asm); (case k4 => k_asm); (case k5 => k_asm); (case kK => first | exact rfl | assumption); (case kd => ktr_room); (case ku => ktr_units); intro v9 h9 tk9 hv9 F9 N9; subst hv9; (try dsimp only); (try k_fold); (try k_sweep)))))
local macro_rules | `(tactic| walk_at "pyIter ref") => `(tactic| ((with_reducible show wpAny _ _ (pyIter (Value.ref _)) (fun it s₂ => TurnsAt _ _ _ _ _ _ _ _ _ it s₂) _ _); (with_reducible rename Yr2 _ => yr9); (rename Fr _ _ _ _ => lF'); (rename News _ _ _ _ => lN'); (with_unfolding_all refine' iter_mo (x := Str.ofString "k") (y := Str.ofString "months") yr9 ?hh lF' lN' ?hm ?hi ?hy (fun I' k' t' c' t'' u' it' h' tk' hit' F' N' => ?_) (fun u' t' h' tk' F' N' => ?_)); k_dflt (case hh => rfl); k_dflt (case hm => k_mem); k_dflt (case hi => l_ints); k_dflt (case hy => with_unfolding_all rfl); all_goals (clear lF' lN'); all_goals (try k_fold)))
local macro_rules | `(tactic| walk_at "TPost") => `(tactic| (dsimp only [TPost]))
local macro_rules | `(tactic| walk_at "TEnd") => `(tactic| k_dflt (refine' TEnd.intro ?F ?N ?a ?b ?c; (case F => assumption); (case N => assumption); (case a => with_unfolding_all rfl); (case b => unfold countS; split <;> omega); (case c => k_same2)))
local macro_rules | `(tactic| walk_at "execs cons") => `(tactic| ((with_reducible refine wpAny_execs_cons ?_); (try dsimp only)))
local macro_rules | `(tactic| walk_at "execs nil") => `(tactic| (with_reducible refine wpAny_execs_nil ?_))
theorem begin_ok (y : Int) (t : Tok) (h0 : 1 ≤ y) (h1 : y ≤ 1600000000) : Cl0 2 16 126 [.int y t] (IsI (fun d => d = 347998 + ny y)) := by
  have yr := Yr2.mk (y := y)
  intro w mean mg mb dp un gd cn cs a ccd cl outer A₀ base h₀ L m s Q E B F X N T hk hd hu hret
  refine wpAny_call ?_
  k_dflt cell_enter
  k_steps
  all_goals (refine cl_ret (Q := Q) hret ?_ (by k_asm) (by first | k_asm | (refine' cb_drop ?cbN ?cbS; (case cbN => assumption); (case cbS => kcj_all))))
  all_goals (refine ⟨_, _, rfl, ?_⟩)
  all_goals dsimp only
  all_goals (have R := ny_rule y; have G := dd_fp y; clear hret; simp only [Int.fmod_eq_emod_of_nonneg _ (show (0:Int) ≤ 7 by decide), Int.fmod_eq_emod_of_nonneg _ (show (0:Int) ≤ 25920 by decide), Int.fdiv_eq_ediv_of_nonneg _ (show (0:Int) ≤ 25920 by decide), List.any_cons, List.any_nil, Bool.or_false, Bool.or_eq_true, beq_iff_eq, Bool.or_eq_false_iff, beq_eq_false_iff_ne, decide_eq_true_eq, decide_eq_false_iff_not] at *; first
    | omega
    | exact begin_late y (by assumption) (by assumption)
    | (cases hL : leapB y <;> cases hP : leapB (y - 1) <;> simp only [hL, hP, Bool.false_eq_true, Bool.true_eq_false, true_and, and_true, false_and, and_false, or_false, false_or] at * <;> omega))
end Mine
end

section
open PySem PySem.W PyProof.Rows
set_option Elab.async false
set_option maxRecDepth 100000 
set_option maxHeartbeats 8000000 
namespace Mine
theorem fillme4 : PySem.Challenge.rw_bd6013_02.prog = PySem.Challenge.rw_bd6013_02.prog ∧ Mine.hd2.heap_39 = Mine.hd2.heap_39 := by
  k_fill
  exact ⟨rfl, rfl⟩
local macro_rules | `(tactic| walk_at "binaryOp Add float int") => `(tactic| k_dflt (refine' my_add_fi ?a ?x ?p0 ?p1 ?p2 ?p3 ?_; (case a => rfl); (case x => first | exact rfl | exact epoch_hf | exact half_hf); (case p0 => omega); (case p1 => omega); (case p2 => omega); (case p3 => omega)))
local macro_rules | `(tactic| walk_at "inplaceOp Add float int") => `(tactic| k_dflt (refine' my_iadd_fi ?a ?x ?p0 ?p1 ?p2 ?p3 ?_; (case a => rfl); (case x => first | exact rfl | exact epoch_hf | exact half_hf); (case p0 => omega); (case p1 => omega); (case p2 => omega); (case p3 => omega)))
local macro_rules | `(tactic| walk_at "binaryOp Add int float") => `(tactic| k_dflt (refine' my_add_if ?a ?x ?p0 ?p1 ?p2 ?p3 ?_; (case a => rfl); (case x => first | exact rfl | exact epoch_hf | exact half_hf); (case p0 => omega); (case p1 => omega); (case p2 => omega); (case p3 => omega)))
local macro_rules | `(tactic| walk_at "binaryOp Sub float float") => `(tactic| k_dflt (refine' my_sub_ff ?x ?y ?p0 ?p1 ?p2 ?p3 ?p4 ?_; (case x => exact rfl); (case y => exact rfl); (case p0 => omega); (case p1 => omega); (case p2 => omega); (case p3 => omega); (case p4 => omega)))
local macro_rules | `(tactic| walk_at "call type:int") => `(tactic| ((with_reducible show wpAny _ _ (call _ [Value.float _ _]) _ _ _); k_dflt (refine' my_int_f ?a ?x ?p0 ?p1 ?_; (case a => rfl); (case x => exact rfl); (case p0 => omega); (case p1 => omega))))
local macro_rules | `(tactic| walk_at "binaryOp Mult int float") => `(tactic| k_dflt (refine' my_mul_2f ?a ?x ?p0 ?p1 ?_; (case a => rfl); (case x => exact rfl); (case p0 => omega); (case p1 => omega)))
local macro_rules | `(tactic| walk_at "binaryOp Mod float int") => `(tactic| k_dflt (refine' my_mod_fi ?a ?x ?p0 ?p1 ?p2 ?p3 ?_; (case a => rfl); (case x => exact rfl); (case p0 => omega); (case p1 => omega); (case p2 => omega); (case p3 => omega)))
local macro_rules | `(tactic| walk_at "compareOp NotEq float int") => `(tactic| k_dflt (refine' my_ne_fi ?x ?p0 ?_; (case x => exact rfl); (case p0 => omega)))
local macro_rules | `(tactic| walk_at "compareOp Eq float int") => `(tactic| k_dflt (refine' my_eq_fi ?x ?p0 ?_; (case x => exact rfl); (case p0 => omega)))
def rowsT : List (Int × Int × Int × Int) := [(0, 353, 354, 15), (0, 353, 355, 42), (0, 353, 385, 35), (0, 355, 353, 69), (0, 355, 355, 1), (0, 355, 383, 18), (0, 355, 385, 48), (0, 383, 355, 8), (0, 385, 353, 14), (0, 385, 355, 17), (1, 354, 355, 4), (1, 354, 385, 24), (1, 384, 355, 27), (3, 354, 353, 34), (3, 354, 355, 20), (3, 354, 383, 7), (3, 354, 385, 13), (3, 355, 354, 23), (3, 355, 384, 43), (3, 383, 354, 3), (3, 385, 354, 6), (5, 353, 354, 50), (5, 353, 384, 26), (5, 355, 354, 9), (5, 355, 383, 2), (5, 355, 385, 5), (5, 383, 354, 19), (5, 383, 355, 22), (5, 385, 353, 25), (5, 385, 355, 52)]
theorem rows_pairs : rowsT.map (fun r => (r.1, r.2.1, r.2.2.1)) = pairsT := by decide
theorem row_of {w l a : Int} (h : Pair w l a) : ∃ r ∈ rowsT, r.1 = w ∧ r.2.1 = l ∧ r.2.2.1 = a := by
  unfold Pair at h
  rw [← rows_pairs] at h
  obtain ⟨r, hr, e⟩ := List.mem_map.mp h
  refine ⟨r, hr, ?_⟩
  injection e with e1 e2
  injection e2 with e2 e3
  exact ⟨e1, e2, e3⟩
def ClP (D U : Nat) (f : Addr) (vs : List Value) (rows : List (Int × Int × Int × Int)) : Prop :=
  ∀ (w : World) (mean : ExcName → Option Value) (mg mb : Str → Option Value) (dp un : Nat) (gd : Option (List Code)) (cn : Str) (cs : Scope) (a : Addr) (ccd : Value) (cl : List (Str × Addr)) (outer : List Env) (A₀ : Around) (base h₀ : Heap) (L : Addr) (m : Str → Option Value) (news : List (Addr × Obj)) (s : Shared) (Q E : Value → Shared → Prop),
    Below A₀ base outer h₀ → Fr h₀ L s.heap m → (Mine.hd2.heap_39 w.params).In h₀ → News h₀ L s.heap news → Top Mine.hd2.view_39 (looseW Mine.hd2.view_39 []) mean mg mb h₀ → cs.kind = .function →
    dp + D < recursionLimit → un + U < cLine → (∀ (l : Addr) (xs : List Value) (led : List (Addr × Obj)) (h' : Heap) (tk' : Nat), (∀ p ∈ news, p ∈ led) → RowsIn led xs rows → Fr h₀ L h' m → News h₀ L h' ((l, W.listOf xs.toArray 0) :: led) → Q (.ref l) { s with heap := h', toks := tk' }) →
      wpAny (model PySem.Challenge.rw_bd6013_02.row.prog w) (ktrTop dp un gd cn cs L a ccd cl outer) (call (.ref f) vs) Q E s
theorem pairs_ok : ClP 1 8 105 [] rowsT := by
  intro w mean mg mb dp un gd cn cs a ccd cl outer A₀ base h₀ L m news s Q E B F X N T hk hd hu hret
  refine wpAny_call ?_
  k_dflt cell_enter
  k_steps
  all_goals (refine hret _ _ _ _ _ ?_ ?_ (by k_asm) (by k_asm))
  · intro p hp
    repeat (first | exact hp | refine List.Mem.tail _ ?_)
  · unfold rowsT
    repeat (first | exact RowsIn.nil | refine RowsIn.cons (by k_mem) ?_)
end Mine
end

section
open PySem PySem.W PyProof.Rows
set_option Elab.async false
set_option maxRecDepth 100000 
set_option maxHeartbeats 8000000 
namespace Mine
theorem fillme5 : PySem.Challenge.rw_bd6013_02.prog = PySem.Challenge.rw_bd6013_02.prog ∧ Mine.hd2.heap_39 = Mine.hd2.heap_39 := by
  k_fill
  exact ⟨rfl, rfl⟩
local macro_rules | `(tactic| walk_at "binaryOp Add float int") => `(tactic| k_dflt (refine' my_add_fi ?a ?x ?p0 ?p1 ?p2 ?p3 ?_; (case a => rfl); (case x => first | exact rfl | exact epoch_hf | exact half_hf); (case p0 => omega); (case p1 => omega); (case p2 => omega); (case p3 => omega)))
local macro_rules | `(tactic| walk_at "inplaceOp Add float int") => `(tactic| k_dflt (refine' my_iadd_fi ?a ?x ?p0 ?p1 ?p2 ?p3 ?_; (case a => rfl); (case x => first | exact rfl | exact epoch_hf | exact half_hf); (case p0 => omega); (case p1 => omega); (case p2 => omega); (case p3 => omega)))
local macro_rules | `(tactic| walk_at "binaryOp Add int float") => `(tactic| k_dflt (refine' my_add_if ?a ?x ?p0 ?p1 ?p2 ?p3 ?_; (case a => rfl); (case x => first | exact rfl | exact epoch_hf | exact half_hf); (case p0 => omega); (case p1 => omega); (case p2 => omega); (case p3 => omega)))
local macro_rules | `(tactic| walk_at "binaryOp Sub float float") => `(tactic| k_dflt (refine' my_sub_ff ?x ?y ?p0 ?p1 ?p2 ?p3 ?p4 ?_; (case x => exact rfl); (case y => exact rfl); (case p0 => omega); (case p1 => omega); (case p2 => omega); (case p3 => omega); (case p4 => omega)))
local macro_rules | `(tactic| walk_at "call type:int") => `(tactic| ((with_reducible show wpAny _ _ (call _ [Value.float _ _]) _ _ _); k_dflt (refine' my_int_f ?a ?x ?p0 ?p1 ?_; (case a => rfl); (case x => exact rfl); (case p0 => omega); (case p1 => omega))))
local macro_rules | `(tactic| walk_at "binaryOp Mult int float") => `(tactic| k_dflt (refine' my_mul_2f ?a ?x ?p0 ?p1 ?_; (case a => rfl); (case x => exact rfl); (case p0 => omega); (case p1 => omega)))
local macro_rules | `(tactic| walk_at "binaryOp Mod float int") => `(tactic| k_dflt (refine' my_mod_fi ?a ?x ?p0 ?p1 ?p2 ?p3 ?_; (case a => rfl); (case x => exact rfl); (case p0 => omega); (case p1 => omega); (case p2 => omega); (case p3 => omega)))
local macro_rules | `(tactic| walk_at "compareOp NotEq float int") => `(tactic| k_dflt (refine' my_ne_fi ?x ?p0 ?_; (case x => exact rfl); (case p0 => omega)))
local macro_rules | `(tactic| walk_at "compareOp Eq float int") => `(tactic| k_dflt (refine' my_eq_fi ?x ?p0 ?_; (case x => exact rfl); (case p0 => omega)))

section
variable {w : World} {mean : ExcName → Option Value} {mg mb : Str → Option Value} {dp un : Nat} {gd : Option (List Code)} {cn : Str} {cs : Scope} {a : Addr} {ccd : Value} {cl : List (Str × Addr)} {outer : List Env} {A₀ : Around} {base h₀ : Heap} {L : Addr} {m : Str → Option Value} {news : List (Addr × Obj)} {s : Shared} {Q E : Value → Shared → Prop} {D U : Nat} {f : Addr} {vs : List Value} {R : Value → Prop} {rows : List (Int × Int × Int × Int)}
theorem clP_use (C : ClP D U f vs rows) (B : Below A₀ base outer h₀) (F : Fr h₀ L s.heap m) (X : (Mine.hd2.heap_39 w.params).In h₀) (N : News h₀ L s.heap news) (T : Top Mine.hd2.view_39 (looseW Mine.hd2.view_39 []) mean mg mb h₀) (hk : cs.kind = .function)
    (hd : dp + D < recursionLimit) (hu : un + U < cLine) (ret : ∀ (l : Addr) (xs : List Value) (led : List (Addr × Obj)) (h' : Heap) (tk' : Nat), (∀ p ∈ news, p ∈ led) → RowsIn led xs rows → Fr h₀ L h' m → News h₀ L h' ((l, W.listOf xs.toArray 0) :: led) → Q (.ref l) { s with heap := h', toks := tk' }) :
      wpAny (model PySem.Challenge.rw_bd6013_02.row.prog w) (ktrTop dp un gd cn cs L a ccd cl outer) (call (.ref f) vs) Q E s :=
  C w mean mg mb dp un gd cn cs a ccd cl outer A₀ base h₀ L m news s Q E B F X N T hk hd hu ret
end
section
variable {prog : Program} {w : World} {A : Around} {E : Value → Shared → Prop} {s : Shared} {Q : Value → Shared → Prop} {x : UInt64} {t u : Tok} {n k : Int}
theorem my_eq_if (hx : x = hf k) (h1 : k.natAbs < 2 ^ 50) (h : Q (.bool (decide (k = 2 * n))) s) :
    wpAny (model prog w) A (compareOp .Eq (.int n u) (.float x t)) Q E s := by
  subst hx
  refine eq_if ?_
  rw [cmp_eq_hf h1]; exact h
end
local macro_rules | `(tactic| walk_at "compareOp Eq int float") => `(tactic| k_dflt (refine' my_eq_if ?x ?p0 ?_; (case x => exact rfl); (case p0 => omega)))
local macro_rules | `(tactic| walk_at "call ref") => `(tactic| (k_here; k_dflt (refine' clP_use pairs_ok ?k1 ?k2 ?k3 ?k4 ?k5 ?kK ?kd ?ku ?_; (case k1 => k_asm); (case k2 => k_asm); (case k3 => k_asm); (case k4 => k_asm); (case k5 => k_asm); (case kK => first | exact rfl | assumption); (case kd => ktr_room); (case ku => ktr_units); intro l9 xs9 led9 h9 tk9 hs9 hr9 F9 N9; (try dsimp only); (try k_fold); (try k_sweep))))
local macro_rules | `(tactic| walk_at "pyIter ref") => `(tactic| ((with_reducible show wpAny _ _ (pyIter (Value.ref _)) (fun it s₂ => LoopAtV _ _ _ _ _ _ _ _ _ it s₂) _ _); (with_reducible rename Sought _ _ _ => so9); (with_reducible rename RowsIn _ _ _ => ri9); (rename Fr _ _ _ _ => lF'); (rename News _ _ _ _ => lN'); (with_unfolding_all refine' iter_rows so9 ri9 (by rfl) lF' lN' (fun I' r0' r1' r2' r3' t0' t1' t2' t3' a' it' h' tk' hit' hT' F' N' => ?_) (fun hno' u' h' tk' F' N' => ?_)); all_goals (clear lF' lN'); all_goals (try k_fold)))
local macro_rules | `(tactic| walk_at "RPost") => `(tactic| (dsimp only [RPost]))
local macro_rules | `(tactic| walk_at "REnd") => `(tactic| k_dflt (refine' REnd.intro ?F ?N ?b ?c; (case F => assumption); (case N => assumption); (case b => omega); (case c => (intro z h1; first | rfl | (simp only [if_neg h1]; done) | (simp_all; done)))))
theorem in_pairsI (p q r : Int) (t t1 t2 : Tok) (hp : Pair p q r) (b1 : 0 ≤ q ∧ q ≤ 1000) (b2 : 0 ≤ r ∧ r ≤ 1000) : Cl 2 16 140 [.int p t, .float (hf (2 * q)) t1, .float (hf (2 * r)) t2] (IsB true) := by
  have so := Sought.mk (p := p) (q := q) (r := r)
  intro w mean mg mb dp un gd cn cs a ccd cl outer A₀ base h₀ L m news s Q E B F X N T hk hd hu hret
  refine wpAny_call ?_
  k_dflt cell_enter
  k_steps
  all_goals first
    | (refine cl_ret (Q := Q) hret rfl (by k_asm) ?_; (rename (∀ z ∈ news, z ∈ _) => hs8); (refine' cb_drop ?cbN ?cbS; (case cbN => assumption); (case cbS => exact fun z hz => List.Mem.tail _ (List.Mem.tail _ (hs8 z hz)))))
    | (exfalso; obtain ⟨o, ho, h1, h2, h3⟩ := row_of hp; (rename (∀ o ∈ rowsT, ¬ _) => hno8); exact hno8 o ho ⟨h1, h2, h3⟩)
theorem in_pairsF (p q r : Int) (t t1 t2 : Tok) (hp : Pair p q r) (b0 : 0 ≤ p ∧ p ≤ 7) (b1 : 0 ≤ q ∧ q ≤ 1000) (b2 : 0 ≤ r ∧ r ≤ 1000) : Cl 2 16 140 [.float (hf (2 * p)) t, .float (hf (2 * q)) t1, .float (hf (2 * r)) t2] (IsB true) := by
  have so := Sought.mk (p := p) (q := q) (r := r)
  intro w mean mg mb dp un gd cn cs a ccd cl outer A₀ base h₀ L m news s Q E B F X N T hk hd hu hret
  refine wpAny_call ?_
  k_dflt cell_enter
  k_steps
  all_goals first
    | (refine cl_ret (Q := Q) hret rfl (by k_asm) ?_; (rename (∀ z ∈ news, z ∈ _) => hs8); (refine' cb_drop ?cbN ?cbS; (case cbN => assumption); (case cbS => exact fun z hz => List.Mem.tail _ (List.Mem.tail _ (hs8 z hz)))))
    | (exfalso; obtain ⟨o, ho, h1, h2, h3⟩ := row_of hp; (rename (∀ o ∈ rowsT, ¬ _) => hno8); exact hno8 o ho ⟨h1, h2, h3⟩)
end Mine
end

section
open PySem PySem.W PyProof.Rows
set_option maxRecDepth 100000 
namespace Mine
def PairF (kw kl ka : Int) : Prop := ∃ p q r, kw = 2 * p ∧ kl = 2 * q ∧ ka = 2 * r ∧ Pair p q r ∧ (0 ≤ p ∧ p ≤ 7) ∧ (0 ≤ q ∧ q ≤ 1000) ∧ (0 ≤ r ∧ r ≤ 1000)
def PairI (p kl ka : Int) : Prop := ∃ q r, kl = 2 * q ∧ ka = 2 * r ∧ Pair p q r ∧ (0 ≤ q ∧ q ≤ 1000) ∧ (0 ≤ r ∧ r ≤ 1000)
theorem in_F (kw kl ka : Int) (t t1 t2 : Tok) (h : PairF kw kl ka) : Cl 2 16 140 [.float (hf kw) t, .float (hf kl) t1, .float (hf ka) t2] (IsB true) := by
  obtain ⟨p, q, r, rfl, rfl, rfl, hp, b0, b1, b2⟩ := h
  exact in_pairsF p q r t t1 t2 hp b0 b1 b2
theorem in_I (p kl ka : Int) (t t1 t2 : Tok) (h : PairI p kl ka) : Cl 2 16 140 [.int p t, .float (hf kl) t1, .float (hf ka) t2] (IsB true) := by
  obtain ⟨q, r, rfl, rfl, hp, b1, b2⟩ := h
  exact in_pairsI p q r t t1 t2 hp b1 b2
theorem pair' (y : Int) : Pair (ny y % 7) (ny (y + 1) - ny y) (ny (y + 1 + 1) - ny (y + 1)) := by
  have h := pair y
  rw [show y + 2 = y + 1 + 1 by omega] at h
  exact h
theorem pairI_of {y c kl ka : Int} (hc : c = 347998 + ny y) (hl : kl = 2 * (ny (y + 1) - ny y)) (ha : ka = 2 * (ny (y + 1 + 1) - ny (y + 1))) : PairI (c.fmod 7) kl ka := by
  have h1 := yd_bd y
  have h2 := yd_bd (y + 1)
  refine ⟨_, _, hl, ha, ?_, by omega, by omega⟩
  rw [Int.fmod_eq_emod_of_nonneg _ (by decide), show c % 7 = ny y % 7 by omega]
  exact pair' y
theorem pairF_of {y k kl ka : Int} (hc : k = 2 * (347998 + ny y)) (hl : kl = 2 * (ny (y + 1) - ny y)) (ha : ka = 2 * (ny (y + 1 + 1) - ny (y + 1))) : PairF (k % (2 * 7)) kl ka := by
  have h1 := yd_bd y
  have h2 := yd_bd (y + 1)
  refine ⟨ny y % 7, _, _, by omega, hl, ha, pair' y, by omega, by omega, by omega⟩
/-- the year of a turn -/
structure Tn (y : Int) : Prop where
section loop
variable {prog : Program} {w : World} {A : Around} {E : Value → Shared → Prop} {s : Shared} {env : Env} {h₀ : Heap} {body : List Stmt} {Q : Flow → Shared → Prop}
def kY : Str := Str.ofString "year"
def LEnd (h₀ : Heap) (L : Addr) (x y1 y2 y3 : Str) (m₀ : Str → Option Value) (c l : Int) (led : List (Addr × Obj)) (s₁ s₂ : Shared) : Prop :=
  ∃ h' tk m' t' t'', s₂ = { s₁ with heap := h', toks := tk } ∧ Fr h₀ L h' m' ∧ News h₀ L h' led ∧ m' y1 = some (.float (hf (2 * c)) t') ∧ m' y2 = some (.float (hf (2 * l)) t'') ∧ ∀ z, z ≠ x → z ≠ y1 → z ≠ y2 → z ≠ y3 → m' z = m₀ z
def LPost (h₀ : Heap) (L : Addr) (x y1 y2 y3 : Str) (m₀ : Str → Option Value) (c l : Int) (led : List (Addr × Obj)) (s₁ : Shared) (Q : Flow → Shared → Prop) (f : Flow) (s₂ : Shared) : Prop :=
  match f with
  | .ret v => Q (.ret v) s₂
  | .brk => Q .next s₂
  | _ => LEnd h₀ L x y1 y2 y3 m₀ c l led s₁ s₂
theorem LEnd.intro {L : Addr} {x y1 y2 y3 : Str} {m₀ m' : Str → Option Value} {led : List (Addr × Obj)} {s₁ : Shared} {h' : Heap} {tk : Nat} {c l k k' : Int} {t' t'' : Tok} (F : Fr h₀ L h' m') (N : News h₀ L h' led)
    (hy : m' y1 = some (.float (hf k) t')) (hz : m' y2 = some (.float (hf k') t'')) (hP : k = 2 * c) (hP' : k' = 2 * l) (hm : ∀ z, z ≠ x → z ≠ y1 → z ≠ y2 → z ≠ y3 → m' z = m₀ z) : LEnd h₀ L x y1 y2 y3 m₀ c l led s₁ { s₁ with heap := h', toks := tk } := by
  subst hP hP'; exact ⟨h', tk, m', t', t'', rfl, F, N, hy, hz, hm⟩
theorem map_law {x y1 y2 y3 : Str} {m₁ m₀ : Str → Option Value} {v u1 u2 : Value} (ha : m₁ y1 = some u1) (hb : m₁ y2 = some u2) (hm : ∀ z, z ≠ x → z ≠ y1 → z ≠ y2 → z ≠ y3 → m₁ z = m₀ z) :
    (fun z => if z = x then some v else m₁ z) = fun z => if z = x then some v else if z = y1 then some u1 else if z = y2 then some u2 else if z = y3 then m₁ z else m₀ z := by
  funext z
  by_cases h1 : z = x
  · rw [if_pos h1, if_pos h1]
  · rw [if_neg h1, if_neg h1]
    by_cases h2 : z = y1
    · rw [if_pos h2, h2, ha]
    · rw [if_neg h2]
      by_cases h3 : z = y2
      · rw [if_pos h3, h3, hb]
      · rw [if_neg h3]
        by_cases h4 : z = y3
        · rw [if_pos h4]
        · rw [if_neg h4]; exact hm z h1 h2 h3 h4
theorem map_law' {x y1 y2 y3 : Str} {m₁ m₀ : Str → Option Value} {u1 u2 : Value} (ha : m₁ y1 = some u1) (hb : m₁ y2 = some u2) (hm : ∀ z, z ≠ x → z ≠ y1 → z ≠ y2 → z ≠ y3 → m₁ z = m₀ z) :
    m₁ = fun z => if z = x then m₁ z else if z = y1 then some u1 else if z = y2 then some u2 else if z = y3 then m₁ z else m₀ z := by
  funext z
  by_cases h1 : z = x
  · rw [if_pos h1]
  · rw [if_neg h1]
    by_cases h2 : z = y1
    · rw [if_pos h2, h2, ha]
    · rw [if_neg h2]
      by_cases h3 : z = y2
      · rw [if_pos h3, h3, hb]
      · rw [if_neg h3]
        by_cases h4 : z = y3
        · rw [if_pos h4]
        · rw [if_neg h4]; exact hm z h1 h2 h3 h4
theorem rest_law {x y1 y2 y3 : Str} {I : Addr} {Y : Int} {n : Nat} {m₀ : Str → Option Value} {news : List (Addr × Obj)} (hoff : ∀ p ∈ news, p.1 < I)
    (turnS : ∀ (i : Nat) t t' t'' (u : Str → Option Value) h tk yy, i < n → yy = Y + (i : Int) → Fr h₀ env.locals h (fun z => if z = x then some (.int yy t) else if z = y1 then some (.float (hf (2 * (347998 + ny yy))) t') else if z = y2 then some (.float (hf (2 * (ny (yy + 1) - ny yy))) t'') else if z = y3 then u z else m₀ z) →
      News h₀ env.locals h ((I, itR (Y + ((i + 1 : Nat) : Int)) ((n : Int) - ((i + 1 : Nat) : Int))) :: news) →
      wpAny (model prog w) A (execs body env) (LPost h₀ env.locals x y1 y2 y3 m₀ (347998 + ny (yy + 1)) (ny (yy + 1 + 1) - ny (yy + 1)) ((I, itR (Y + ((i + 1 : Nat) : Int)) ((n : Int) - ((i + 1 : Nat) : Int))) :: news) { s with heap := h, toks := tk } Q) E { s with heap := h, toks := tk })
    (done : ∀ (u : Str → Option Value) t' t'' c l h tk, Fr h₀ env.locals h (fun z => if z = x then u z else if z = y1 then some (.float c t') else if z = y2 then some (.float l t'') else if z = y3 then u z else m₀ z) → News h₀ env.locals h news → Q .next { s with heap := h, toks := tk }) :
    ∀ k i m₁ t' t'', i + k = n → m₁ y1 = some (.float (hf (2 * (347998 + ny (Y + (i : Int))))) t') → m₁ y2 = some (.float (hf (2 * (ny (Y + (i : Int) + 1) - ny (Y + (i : Int))))) t'') → (∀ z, z ≠ x → z ≠ y1 → z ≠ y2 → z ≠ y3 → m₁ z = m₀ z) → RangeRest prog w A E h₀ env x body Q s I Y n k i m₁ news := by
  intro k
  induction k with
  | zero =>
    intro i m₁ t' t'' hi hy hz hm
    refine RangeRest.zero fun h tk F N => ?_
    rw [map_law' hy hz hm] at F
    exact done m₁ t' t'' _ _ h tk F N
  | succ k ih =>
    intro i m₁ t' t'' hi hy hz hm
    refine RangeRest.succ fun t h tk F N => ?_
    rw [map_law hy hz hm] at F
    refine wpAny_mono (turnS i t t' t'' m₁ h tk _ (by omega) rfl F N) (fun f s₂ p => ?_) fun _ _ e => e
    have fin : LEnd h₀ env.locals x y1 y2 y3 m₀ (347998 + ny (Y + (i : Int) + 1)) (ny (Y + (i : Int) + 1 + 1) - ny (Y + (i : Int) + 1)) ((I, itR (Y + ((i + 1 : Nat) : Int)) ((n : Int) - ((i + 1 : Nat) : Int))) :: news) { s with heap := h, toks := tk } s₂ →
        UnrEnd h₀ env.locals { s with heap := h, toks := tk } I (itR (Y + ((i + 1 : Nat) : Int)) ((n : Int) - ((i + 1 : Nat) : Int))) (RangeRest prog w A E h₀ env x body Q s I Y n k (i + 1)) s₂ := by
      rintro ⟨h', tk', m', t3, t4, rfl, F', N', hy', hz', hm'⟩
      have e : Y + ((i + 1 : Nat) : Int) = Y + (i : Int) + 1 := by omega
      exact ⟨h', tk', m', news, rfl, F', N', fun p hp => Nat.ne_of_lt (hoff p hp), ih (i + 1) m' t3 t4 (by omega) (by rw [e]; exact hy') (by rw [e]; exact hz') hm'⟩
    cases f with
    | ret v => exact p
    | brk => exact p
    | next => exact fin p
    | cont => exact fin p
theorem iter_law {x y1 y2 y3 : Str} {r : Addr} {b₀ Y : Int} {t₀ u₀ v₀ : Tok} {m₀ : Str → Option Value} {news : List (Addr × Obj)} {c l : Int} {tc tl : Tok} (_ : Yr2 Y)
    (hh : A.handled = none) (hr : IsRange s.heap r Y b₀ 1 t₀ u₀ v₀) (hb : b₀ = Y + 8) (hY : 0 ≤ Y ∧ Y ≤ 2000000000) (F : Fr h₀ env.locals s.heap m₀) (N : News h₀ env.locals s.heap news) (hy : m₀ y1 = some (.int c tc)) (hz : m₀ y2 = some (.float (hf l) tl)) (hl : l = 2 * (ny (Y + 1) - ny Y))
    (turn0 : ∀ (I : Addr) t h tk, Tn Y → Fr h₀ env.locals h (fun z => if z = x then some (.int Y t) else m₀ z) → News h₀ env.locals h ((I, itR (Y + ((0 + 1 : Nat) : Int)) (((8 : Nat) : Int) - ((0 + 1 : Nat) : Int))) :: news) →
      wpAny (model prog w) A (execs body env) (LPost h₀ env.locals x y1 y2 y3 m₀ (347998 + ny (Y + 1)) (ny (Y + 1 + 1) - ny (Y + 1)) ((I, itR (Y + ((0 + 1 : Nat) : Int)) (((8 : Nat) : Int) - ((0 + 1 : Nat) : Int))) :: news) { s with heap := h, toks := tk } Q) E { s with heap := h, toks := tk })
    (turnS : ∀ (I : Addr) (i : Nat) t t' t'' (u : Str → Option Value) h tk yy, Tn yy → Y ≤ yy → yy < Y + 8 → Fr h₀ env.locals h (fun z => if z = x then some (.int yy t) else if z = y1 then some (.float (hf (2 * (347998 + ny yy))) t') else if z = y2 then some (.float (hf (2 * (ny (yy + 1) - ny yy))) t'') else if z = y3 then u z else m₀ z) →
      News h₀ env.locals h ((I, itR (Y + ((i + 1 : Nat) : Int)) (((8 : Nat) : Int) - ((i + 1 : Nat) : Int))) :: news) →
      wpAny (model prog w) A (execs body env) (LPost h₀ env.locals x y1 y2 y3 m₀ (347998 + ny (yy + 1)) (ny (yy + 1 + 1) - ny (yy + 1)) ((I, itR (Y + ((i + 1 : Nat) : Int)) (((8 : Nat) : Int) - ((i + 1 : Nat) : Int))) :: news) { s with heap := h, toks := tk } Q) E { s with heap := h, toks := tk })
    (done : ∀ (u : Str → Option Value) t' t'' c l h tk, Fr h₀ env.locals h (fun z => if z = x then u z else if z = y1 then some (.float c t') else if z = y2 then some (.float l t'') else if z = y3 then u z else m₀ z) → News h₀ env.locals h news → Q .next { s with heap := h, toks := tk }) :
    wpAny (model prog w) A (pyIter (.ref r)) (fun it s₂ => LoopAtV prog w A h₀ env x body Q E it s₂) E s := by
  subst hb hl
  refine iter_rangeUnr (n := 8) hh hr (small_one (by omega) (by omega) (by omega) (by omega)) ((rangeSize_nat _ _).trans (by omega)) F N (fun I hI => ?_)
  refine RangeRest.succ fun t h tk F N => ?_
  have e0 : Y + ((0 : Nat) : Int) = Y := by omega
  rw [e0] at F
  refine wpAny_mono (turn0 I t h tk ⟨⟩ F N) (fun f s₂ p => ?_) fun _ _ e => e
  have fin : LEnd h₀ env.locals x y1 y2 y3 m₀ (347998 + ny (Y + 1)) (ny (Y + 1 + 1) - ny (Y + 1)) ((I, itR (Y + ((0 + 1 : Nat) : Int)) (((8 : Nat) : Int) - ((0 + 1 : Nat) : Int))) :: news) { s with heap := h, toks := tk } s₂ →
      UnrEnd h₀ env.locals { s with heap := h, toks := tk } I (itR (Y + ((0 + 1 : Nat) : Int)) (((8 : Nat) : Int) - ((0 + 1 : Nat) : Int))) (RangeRest prog w A E h₀ env x body Q s I Y 8 7 (0 + 1)) s₂ := by
    rintro ⟨h', tk', m', t3, t4, rfl, F', N', hy', hz', hm'⟩
    have e : Y + ((0 + 1 : Nat) : Int) = Y + 1 := by omega
    refine ⟨h', tk', m', news, rfl, F', N', fun p hp => Nat.ne_of_lt (hI p hp), ?_⟩
    refine rest_law (x := x) (y1 := y1) (y2 := y2) (y3 := y3) (m₀ := m₀) hI (fun i t t' t'' u h tk yy hi hyy F N => turnS I i t t' t'' u h tk yy ⟨⟩ (by omega) (by omega) F N) done 7 (0 + 1) m' t3 t4 (by omega) (by rw [e]; exact hy') (by rw [e]; exact hz') hm'
  cases f with
  | ret v => exact p
  | brk => exact p
  | next => exact fin p
  | cont => exact fin p
end loop
end Mine
end

section
namespace Mine
theorem fmod_pos (a : Int) {n : Int} (h : 0 ≤ n) : a.fmod n = a % n := Int.fmod_eq_emod_of_nonneg a h
/-! what a whole round of 689472 years turns -/
theorem mo_per (y q : Int) : mo (y + 689472 * q) = mo y + 8527680 * q := by unfold mo; omega
theorem leap_per (y q : Int) : leapB (y + 689472 * q) = leapB y := by 
  unfold leapB
  rw [show (y + 689472 * q) * 7 + 1 = (y * 7 + 1) + 19 * (254016 * q) by omega, Int.add_mul_emod_self_left]
theorem dd_per (y q : Int) : dd (y + 689472 * q) = dd y + 251827457 * q := by rw [dd_eq, dd_eq, mo_per]; omega
theorem d1_per (y q : Int) : d1 (y + 689472 * q) = d1 y + 251827457 * q := by
  unfold d1
  rw [dd_per, show 3 * (dd y + 251827457 * q + 1) = 3 * (dd y + 1) + 7 * (107926053 * q) by omega, Int.add_mul_emod_self_left]
  split <;> omega
theorem d2_per (y q : Int) : d2 (y + 689472 * q) = d2 y := by
  unfold d2
  have e1 : y + 689472 * q + 1 = (y + 1) + 689472 * q := by omega
  have e2 : y + 689472 * q - 1 = (y - 1) + 689472 * q := by omega
  rw [e1, e2, d1_per, d1_per, d1_per]
  have a1 : d1 (y + 1) + 251827457 * q - (d1 y + 251827457 * q) = d1 (y + 1) - d1 y := by omega
  have a2 : d1 y + 251827457 * q - (d1 (y - 1) + 251827457 * q) = d1 y - d1 (y - 1) := by omega
  rw [a1, a2]
theorem ny_per (y q : Int) : ny (y + 689472 * q) = ny y + 251827457 * q := by unfold ny; rw [d1_per, d2_per]; omega
theorem yd_per (y q : Int) : ny (y + 689472 * q + 1) - ny (y + 689472 * q) = ny (y + 1) - ny y := by
  have e1 : y + 689472 * q + 1 = (y + 1) + 689472 * q := by omega
  rw [e1, ny_per, ny_per]; omega

def RowF (r : Int × Int × Int × Int) (y : Int) : Prop := 1 ≤ y ∧ y ≤ 1600000000 ∧ ny y % 7 = r.1 ∧ ny (y + 1) - ny y = r.2.1 ∧ ny (y + 1 + 1) - ny (y + 1) = r.2.2.1
theorem row_base : ∀ k : Nat, k < 30 → 1 ≤ (rowsT.getD k (0, 0, 0, 0)).2.2.2 ∧ (rowsT.getD k (0, 0, 0, 0)).2.2.2 ≤ 1000 ∧ ny (rowsT.getD k (0, 0, 0, 0)).2.2.2 % 7 = (rowsT.getD k (0, 0, 0, 0)).1 ∧
    ny ((rowsT.getD k (0, 0, 0, 0)).2.2.2 + 1) - ny (rowsT.getD k (0, 0, 0, 0)).2.2.2 = (rowsT.getD k (0, 0, 0, 0)).2.1 ∧
    ny ((rowsT.getD k (0, 0, 0, 0)).2.2.2 + 1 + 1) - ny ((rowsT.getD k (0, 0, 0, 0)).2.2.2 + 1) = (rowsT.getD k (0, 0, 0, 0)).2.2.1 := by decide +kernel
theorem row_case (a b : Int) : RowF (rowsT.getD (b.fmod 30).toNat (0, 0, 0, 0)) ((rowsT.getD (b.fmod 30).toNat (0, 0, 0, 0)).2.2.2 + 689472 * a.fmod 1000) := by
  rw [fmod_pos a (by decide), fmod_pos b (by decide)]
  obtain ⟨h0, h1, h2, h3, h4⟩ := row_base (b % 30).toNat (by omega)
  generalize rowsT.getD (b % 30).toNat (0, 0, 0, 0) = r at *
  have e1 : r.2.2.2 + 689472 * (a % 1000) + 1 = (r.2.2.2 + 1) + 689472 * (a % 1000) := by omega
  refine ⟨by omega, by omega, ?_, ?_, ?_⟩
  · rw [ny_per]; omega
  · rw [yd_per]; exact h3
  · rw [e1, yd_per]; exact h4
end Mine
end

section
open PySem PySem.W PyProof.Rows
set_option Elab.async false
set_option maxRecDepth 100000 
set_option maxHeartbeats 8000000 
namespace Mine
section
variable {w : World} {mean : ExcName → Option Value} {mg mb : Str → Option Value} {dp un : Nat} {gd : Option (List Code)} {cn : Str} {cs : Scope} {a : Addr} {ccd : Value} {cl : List (Str × Addr)} {outer : List Env} {A₀ : Around} {base h₀ : Heap} {L : Addr} {m : Str → Option Value} {news : List (Addr × Obj)} {s : Shared} {Q E : Value → Shared → Prop} {D U : Nat} {f : Addr} {vs : List Value} {R : Value → Prop}
theorem cl0_use (C : Cl0 D U f vs R) (B : Below A₀ base outer h₀) (F : Fr h₀ L s.heap m) (X : (Mine.hd2.heap_39 w.params).In h₀) (N : News h₀ L s.heap []) (T : Top Mine.hd2.view_39 (looseW Mine.hd2.view_39 []) mean mg mb h₀) (hk : cs.kind = .function)
    (hd : dp + D < recursionLimit) (hu : un + U < cLine) (ret : ∀ (v : Value) (h' : Heap) (tk' : Nat), R v → Fr h₀ L h' m → News h₀ L h' [] → Q v { s with heap := h', toks := tk' }) :
      wpAny (model PySem.Challenge.rw_bd6013_02.row.prog w) (ktrTop dp un gd cn cs L a ccd cl outer) (call (.ref f) vs) Q E s :=
  C w mean mg mb dp un gd cn cs a ccd cl outer A₀ base h₀ L m s Q E B F X N T hk hd hu ret
end
theorem nonews {h₀ h : Heap} {L : Addr} : News h₀ L h [] := fun _ hp => nomatch hp
section
variable {prog : Program} {w : World} {A : Around} {E : Value → Shared → Prop} {s : Shared} {x y : UInt64} {t u : Tok} {n k l : Int} {h₀ : Heap} {L : Addr}
theorem my_iadd_if {Q : Value → Shared → Prop} (hA : A.handled = none) (hx : x = hf k) (h0 : 0 < k) (h1 : k < 2 ^ 50) (h2 : 0 ≤ n) (h3 : n < 2 ^ 50) (h : Q (.float (hf (2 * n + k)) s.toks) { s with toks := s.toks + 1 }) :
    wpAny (model prog w) A (inplaceOp .Add (.int n u) (.float x t)) Q E s := by
  subst hx
  refine Flt.iadd_if hA (fun h => absurd h (my_over (by omega))) (fun _ => ?_)
  rw [ofInt_hf (by omega), add_hf (by omega) (by omega) (by omega) (by omega)]; exact h
theorem my_iadd_ff {Q : Value → Shared → Prop} (hx : x = hf k) (hy : y = hf l) (h0 : 0 < k) (h1 : k < 2 ^ 50) (h2 : 0 < l) (h3 : l < 2 ^ 50) (h : Q (.float (hf (k + l)) s.toks) { s with toks := s.toks + 1 }) :
    wpAny (model prog w) A (inplaceOp .Add (.float x t) (.float y u)) Q E s := by
  subst hx hy
  refine iadd_float ?_
  rw [add_hf (by omega) (by omega) (by omega) (by omega)]; exact h
theorem my_ge_fi {Q : Value → Shared → Prop} (hx : x = hf k) (h1 : k.natAbs < 2 ^ 50) (h : Q (.bool (decide (2 * n ≤ k))) s) :
    wpAny (model prog w) A (compareOp .GtE (.float x t) (.int n u)) Q E s := by
  subst hx
  refine ge_fi ?_
  have e : ∀ b, b = decide (2 * n ≤ k) → Q (.bool b) s := fun b hb => hb ▸ h
  apply e
  rw [cmpInt_hf (by omega)]
  rcases Int.lt_trichotomy k (2 * n) with h | h | h
  · rw [Int.compare_eq_lt.mpr h, decide_eq_false (by omega)]; rfl
  · rw [h]; simp
  · rw [Int.compare_eq_gt.mpr h, decide_eq_true (by omega)]; rfl
theorem my_ne_if {Q : Value → Shared → Prop} (hx : x = hf k) (h1 : k.natAbs < 2 ^ 50) (h : Q (.bool (decide (k ≠ 2 * n))) s) :
    wpAny (model prog w) A (compareOp .NotEq (.int n u) (.float x t)) Q E s := by
  subst hx
  refine ne_if ?_
  rw [bne, cmp_eq_hf h1, ← decide_not]; exact h
theorem my_row {value slice : PySem.Expr} {lst : Addr} {xs : List Value} {led : List (Addr × Obj)} {rows : List (Int × Int × Int × Int)} {Q : Value → Shared → Prop} (N : News h₀ L s.heap ((lst, W.listOf xs.toArray 0) :: led)) (RI : RowsIn led xs rows)
    (h0 : 0 ≤ k) (h1 : k < rows.length) (hfit : k < 2 ^ 63) (h : ∀ a t0 t1 t2 t3 r0 r1 r2 r3, (r0, r1, r2, r3) = rows.getD k.toNat (0, 0, 0, 0) → (a, ({ cls := .type "tuple", data := .seq #[.int r0 t0, .int r1 t1, .int r2 t2, .int r3 t3] } : Obj)) ∈ led → Q (.ref a) s)
    (hs : subscripted slice false (.ref lst) (.int k u) = operate [.ref lst, .int k u] (getItem (.ref lst) (.int k u)) := by with_unfolding_all rfl) :
    wpAny (model prog w) A (subscriptTail value slice (.ref lst) (.int k u)) Q E s := by
  obtain ⟨a, t0, t1, t2, t3, e, hm⟩ := RI.get k.toNat (by omega)
  have hl : s.heap.IsList lst xs.toArray := News.isList N (.head _)
  exact tail_any hl.typeIs slot_list_getitem.lookup (wpAny_getItem_list hl h0 hfit (by simpa using e) (h a t0 t1 t2 t3 _ _ _ _ rfl hm)) hs
theorem my_start {c : Int} {Q : Value → Shared → Prop} (h : ∀ y : Int, 1 ≤ y → y ≤ 1000000000 → Q (.int y s.toks) { s with toks := s.toks + 1 }) :
    wpAny (model prog w) A (binaryOp .Add (.int 1 t) (.int (c.fmod (10 ^ Int.toNat 9)) u)) Q E s := by
  have e : (10 : Int) ^ Int.toNat 9 = 1000000000 := by decide
  refine add_int (h _ ?_ ?_) <;> rw [e, Int.fmod_eq_emod_of_nonneg _ (by decide)] <;> omega
theorem my_year {a b r0 r1 r2 r3 : Int} {Q : Value → Shared → Prop} (e : (r0, r1, r2, r3) = rowsT.getD (b.fmod 30).toNat (0, 0, 0, 0))
    (h : ∀ y : Int, 1 ≤ y → y ≤ 1600000000 → ny y % 7 = r0 → ny (y + 1) - ny y = r1 → ny (y + 1 + 1) - ny (y + 1) = r2 → Q (.int y s.toks) { s with toks := s.toks + 1 }) :
    wpAny (model prog w) A (binaryOp .Add (.int r3 t) (.int (689472 * a.fmod 1000) u)) Q E s := by
  have R := row_case a b
  rw [← e] at R
  obtain ⟨h1, h2, h3, h4, h5⟩ := R
  exact add_int (h _ h1 h2 h3 h4 h5)
theorem my_tup {value slice : PySem.Expr} {a : Addr} {xs : List Value} {led : List (Addr × Obj)} {j : Nat} {v : Value} {Q : Value → Shared → Prop} (N : News h₀ L s.heap led)
    (hm : (a, ({ cls := .type "tuple", data := .seq xs.toArray } : Obj)) ∈ led) (hlo : -(2 ^ 63) ≤ k) (hhi : k < 2 ^ 63) (hj : seqIndex? k xs.length = some j) (hx : xs[j]? = some v) (h : Q v s)
    (hs : subscripted slice false (.ref a) (.int k u) = operate [.ref a, .int k u] (getItem (.ref a) (.int k u)) := by with_unfolding_all rfl) :
    wpAny (model prog w) A (subscriptTail value slice (.ref a) (.int k u)) Q E s := item_tupleT (News.isTup N hm) hlo hhi hj hx h hs
theorem b30 (b : Int) : 0 ≤ b.fmod 30 ∧ b.fmod 30 < 30 := by
  rw [Int.fmod_eq_emod_of_nonneg _ (by decide)]; omega
theorem eq_at_fi {x : UInt64} {n : Int} {A : Around} {s : Shared} (hx : x = hf (2 * n)) (h1 : (2 * n).natAbs < 2 ^ 50) : SeqAt.EqAt A s (.float x t) (.int n u) true := fun prog w E Q hq => by
  unfold eqBool
  refine wpAny_holding ?_
  refine wpAny_ite_split (fun hab => absurd (eq_of_beq hab) (fun e => nomatch e)) (fun _ => ?_)
  refine wpAny_bind ?_
  refine my_eq_fi hx h1 ?_
  rw [decide_eq_true rfl]
  exact wpAny_truthy_bool hq
theorem my_tup_eq {a b : Addr} {c p q r k l : Int} {t0 t1 t2 u0 u1 u2 : Tok} {led : List (Addr × Obj)} {Q : Value → Shared → Prop} (N : News h₀ L s.heap led)
    (ha : (a, ({ cls := .type "tuple", data := .seq #[.int (c.fmod 7) t0, .float (hf k) t1, .float (hf l) t2] } : Obj)) ∈ led) (hb : (b, ({ cls := .type "tuple", data := .seq #[.int p u0, .int q u1, .int r u2] } : Obj)) ∈ led)
    (hu : A.units < cLine) (e0 : c % 7 = p) (e1 : k = 2 * q) (e2 : l = 2 * r) (h1 : (2 * q).natAbs < 2 ^ 50) (h2 : (2 * r).natAbs < 2 ^ 50) (h : Q (.bool true) s) :
    wpAny (model prog w) A (compareOp .Eq (.ref a) (.ref b)) Q E s := by
  have e0 : c.fmod 7 = p := (Int.fmod_eq_emod_of_nonneg c (by decide)).trans e0
  rw [e0] at ha
  refine SeqAt.eq_tupleAt (e := fun _ => true) (News.isTup N ha) (News.isTup N hb) hu ?_ h
  intro j hj1 hj2
  match j, hj1, hj2 with
  | 0, _, _ => exact by have := SeqAt.EqAt.int_int (A := A.in1) (s := s) p t0 p u0; rwa [beq_self_eq_true] at this
  | 1, _, _ => exact eq_at_fi (congrArg hf e1) h1
  | 2, _, _ => exact eq_at_fi (congrArg hf e2) h2
end
theorem ny_bd {y : Int} (h0 : 1 ≤ y) (h1 : y ≤ 2000000000) : 0 ≤ ny y ∧ ny y ≤ 1000000000010 := by
  have a := d1_bd (y := y) (by omega) h1
  have b := d2_bd y
  unfold ny; omega
theorem leap_len (y : Int) : (383 ≤ ny (y + 1) - ny y ∧ leapB y = true) ∨ (ny (y + 1) - ny y < 383 ∧ leapB y = false) := by
  have h := kind y
  unfold Kind at h
  rcases h with ⟨h, h'⟩ | ⟨h, h'⟩
  · exact .inr ⟨by omega, h⟩
  · exact .inl ⟨by omega, h⟩
theorem ym_okL (y : Int) (t : Tok) (h0 : 1 ≤ y) (h1 : y ≤ 1900000000) : Cl 2 16 56 [.int y t] (IsI (fun d => (383 ≤ ny (y + 1) - ny y ∧ d = 13 ∧ leapB y = true) ∨ (ny (y + 1) - ny y < 383 ∧ d = 12 ∧ leapB y = false))) := by
  have h := ym_ok y t h0 h1
  intro w mean mg mb dp un gd cn cs a ccd cl outer A₀ base h₀ L m news s Q E B F X N T hk hd hu hret
  refine h w mean mg mb dp un gd cn cs a ccd cl outer A₀ base h₀ L m news s Q E B F X N T hk hd hu (fun v h' tk' hv F' N' => hret v h' tk' ?_ F' N')
  obtain ⟨d, t', rfl, hd'⟩ := hv
  refine ⟨d, t', rfl, ?_⟩
  have hd' : d = if leapB y = true then 13 else 12 := hd'
  rcases leap_len y with ⟨h1, h2⟩ | ⟨h1, h2⟩
  · rw [h2] at hd'; exact .inl ⟨h1, hd', h2⟩
  · rw [h2] at hd'; exact .inr ⟨h1, hd', h2⟩
theorem long_okb (y : Int) (b : Bool) (t : Tok) (h0 : 0 ≤ y) (h1 : y ≤ 1700000000) (h : leapB y = b) : Cl 1 8 119 [.int y t] (IsB b) := h ▸ long_ok y t h0 h1
theorem pairI_t {y c kl ka : Int} (_ : Tn y) (hc : c = 347998 + ny y) (hl : kl = 2 * (ny (y + 1) - ny y)) (ha : ka = 2 * (ny (y + 1 + 1) - ny (y + 1))) : PairI (c.fmod 7) kl ka := pairI_of hc hl ha
theorem pairF_t {y k kl ka : Int} (_ : Tn y) (hc : k = 2 * (347998 + ny y)) (hl : kl = 2 * (ny (y + 1) - ny y)) (ha : ka = 2 * (ny (y + 1 + 1) - ny (y + 1))) : PairF (k % (2 * 7)) kl ka := pairF_of hc hl ha
end Mine
end

open PySem PySem.W PyProof.Rows
set_option Elab.async false
set_option maxRecDepth 100000 
set_option maxHeartbeats 8000000 
open Mine
local macro_rules | `(tactic| walk_at "binaryOp Add float int") => `(tactic| k_dflt (refine' my_add_fi ?a ?x ?p0 ?p1 ?p2 ?p3 ?_; (case a => rfl); (case x => first | exact rfl | exact epoch_hf | exact half_hf); (case p0 => omega); (case p1 => omega); (case p2 => omega); (case p3 => omega)))
local macro_rules | `(tactic| walk_at "inplaceOp Add float int") => `(tactic| k_dflt (refine' my_iadd_fi ?a ?x ?p0 ?p1 ?p2 ?p3 ?_; (case a => rfl); (case x => first | exact rfl | exact epoch_hf | exact half_hf); (case p0 => omega); (case p1 => omega); (case p2 => omega); (case p3 => omega)))
local macro_rules | `(tactic| walk_at "binaryOp Add int float") => `(tactic| k_dflt (refine' my_add_if ?a ?x ?p0 ?p1 ?p2 ?p3 ?_; (case a => rfl); (case x => first | exact rfl | exact epoch_hf | exact half_hf); (case p0 => omega); (case p1 => omega); (case p2 => omega); (case p3 => omega)))
local macro_rules | `(tactic| walk_at "binaryOp Sub float float") => `(tactic| k_dflt (refine' my_sub_ff ?x ?y ?p0 ?p1 ?p2 ?p3 ?p4 ?_; (case x => exact rfl); (case y => exact rfl); (case p0 => omega); (case p1 => omega); (case p2 => omega); (case p3 => omega); (case p4 => omega)))
local macro_rules | `(tactic| walk_at "call type:int") => `(tactic| ((with_reducible show wpAny _ _ (call _ [Value.float _ _]) _ _ _); k_dflt (refine' my_int_f ?a ?x ?p0 ?p1 ?_; (case a => rfl); (case x => exact rfl); (case p0 => omega); (case p1 => omega))))
local macro_rules | `(tactic| walk_at "binaryOp Mult int float") => `(tactic| k_dflt (refine' my_mul_2f ?a ?x ?p0 ?p1 ?_; (case a => rfl); (case x => exact rfl); (case p0 => omega); (case p1 => omega)))
local macro_rules | `(tactic| walk_at "binaryOp Mod float int") => `(tactic| k_dflt (refine' my_mod_fi ?a ?x ?p0 ?p1 ?p2 ?p3 ?_; (case a => rfl); (case x => exact rfl); (case p0 => omega); (case p1 => omega); (case p2 => omega); (case p3 => omega)))
local macro_rules | `(tactic| walk_at "compareOp NotEq float int") => `(tactic| k_dflt (refine' my_ne_fi ?x ?p0 ?_; (case x => exact rfl); (case p0 => omega)))
local macro_rules | `(tactic| walk_at "compareOp Eq float int") => `(tactic| k_dflt (refine' my_eq_fi ?x ?p0 ?_; (case x => exact rfl); (case p0 => omega)))
local macro_rules | `(tactic| walk_at "inplaceOp Add int float") => `(tactic| k_dflt (refine' my_iadd_if ?a ?x ?p0 ?p1 ?p2 ?p3 ?_; (case a => rfl); (case x => exact rfl); (case p0 => first | omega | assumption | ((try k_fmods); omega)); (case p1 => first | omega | assumption | ((try k_fmods); omega)); (case p2 => first | omega | assumption | ((try k_fmods); omega)); (case p3 => first | omega | assumption | ((try k_fmods); omega))))
local macro_rules | `(tactic| walk_at "inplaceOp Add float float") => `(tactic| k_dflt (refine' my_iadd_ff ?x ?y ?p0 ?p1 ?p2 ?p3 ?_; (case x => exact rfl); (case y => exact rfl); (case p0 => first | omega | assumption | ((try k_fmods); omega)); (case p1 => first | omega | assumption | ((try k_fmods); omega)); (case p2 => first | omega | assumption | ((try k_fmods); omega)); (case p3 => first | omega | assumption | ((try k_fmods); omega))))
local macro_rules | `(tactic| walk_at "compareOp GtE float int") => `(tactic| k_dflt (refine' my_ge_fi ?x ?p0 ?_; (case x => exact rfl); (case p0 => first | omega | assumption | ((try k_fmods); omega))))
local macro_rules | `(tactic| walk_at "compareOp NotEq int float") => `(tactic| k_dflt (refine' my_ne_if ?x ?p0 ?_; (case x => exact rfl); (case p0 => first | omega | assumption | ((try k_fmods); omega))))
local macro_rules | `(tactic| walk_at "compareOp Eq int float") => `(tactic| k_dflt (refine' my_eq_if ?x ?p0 ?_; (case x => exact rfl); (case p0 => first | omega | assumption | ((try k_fmods); omega))))
local macro_rules | `(tactic| walk_at "call ref") => `(tactic| (k_here; k_dflt (first
  | (refine' cl_use (jd7_ok _ _ _ _ ?p0 ?p1) ?k1 ?k2 ?k3 ?k4 ?k5 ?kK ?kd ?ku ?_; (case p0 => first | omega | assumption | ((try k_fmods); omega)); (case p1 => first | omega | assumption | ((try k_fmods); omega)); (case k1 => k_asm); (case k2 => k_asm); (case k3 => k_asm); (case k4 => k_asm); (case k5 => k_asm); (case kK => first | exact rfl | assumption); (case kd => ktr_room); (case ku => ktr_units); intro v9 h9 tk9 hv9 F9 N9; obtain ⟨d9, t9, hv9, hd9⟩ := hv9; subst hv9; (try dsimp only at hd9); (try dsimp only); (try k_fold); (try k_sweep))
  | (refine' cl_use (number_ok _ _ ?p0 ?p1) ?k1 ?k2 ?k3 ?k4 ?k5 ?kK ?kd ?ku ?_; (case p0 => first | omega | assumption | ((try k_fmods); omega)); (case p1 => first | omega | assumption | ((try k_fmods); omega)); (case k1 => k_asm); (case k2 => k_asm); (case k3 => k_asm); (case k4 => k_asm); (case k5 => k_asm); (case kK => first | exact rfl | assumption); (case kd => ktr_room); (case ku => ktr_units); intro v9 h9 tk9 hv9 F9 N9; obtain ⟨d9, t9, hv9, hd9⟩ := hv9; subst hv9; (try dsimp only at hd9); (try dsimp only); (try k_fold); (try k_sweep))
  | (refine' cl_use (yd_ok _ _ ?p0 ?p1) ?k1 ?k2 ?k3 ?k4 ?k5 ?kK ?kd ?ku ?_; (case p0 => first | omega | assumption | ((try k_fmods); omega)); (case p1 => first | omega | assumption | ((try k_fmods); omega)); (case k1 => k_asm); (case k2 => k_asm); (case k3 => k_asm); (case k4 => k_asm); (case k5 => k_asm); (case kK => first | exact rfl | assumption); (case kd => ktr_room); (case ku => ktr_units); intro v9 h9 tk9 hv9 F9 N9; obtain ⟨d9, t9, hv9, hd9⟩ := hv9; subst hv9; (try dsimp only at hd9); (try dsimp only); (try k_fold); (try k_sweep))
  | (refine' cl_use (ym_okL _ _ ?p0 ?p1) ?k1 ?k2 ?k3 ?k4 ?k5 ?kK ?kd ?ku ?_; (case p0 => first | omega | assumption | ((try k_fmods); omega)); (case p1 => first | omega | assumption | ((try k_fmods); omega)); (case k1 => k_asm); (case k2 => k_asm); (case k3 => k_asm); (case k4 => k_asm); (case k5 => k_asm); (case kK => first | exact rfl | assumption); (case kd => ktr_room); (case ku => ktr_units); intro v9 h9 tk9 hv9 F9 N9; obtain ⟨d9, t9, hv9, hd9⟩ := hv9; subst hv9; (try dsimp only at hd9); (rcases hd9 with ⟨e1, e2, e3⟩ | ⟨e1, e2, e3⟩) <;> (subst e2; (try dsimp only); (try k_fold); (try k_sweep)))
  | (refine' cl_use (long_okb _ _ _ ?p0 ?p1 ?p2) ?k1 ?k2 ?k3 ?k4 ?k5 ?kK ?kd ?ku ?_; (case p0 => first | omega | assumption | ((try k_fmods); omega)); (case p1 => first | omega | assumption | ((try k_fmods); omega)); (case p2 => with_reducible assumption); (case k1 => k_asm); (case k2 => k_asm); (case k3 => k_asm); (case k4 => k_asm); (case k5 => k_asm); (case kK => first | exact rfl | assumption); (case kd => ktr_room); (case ku => ktr_units); intro v9 h9 tk9 hv9 F9 N9; subst hv9; (try dsimp only); (try k_fold); (try k_sweep))
  | (refine' cl0_use (begin_ok _ _ ?p0 ?p1) ?k1 ?k2 ?k3 ?k4 ?k5 ?kK ?kd ?ku ?_; (case p0 => first | omega | assumption | ((try k_fmods); omega)); (case p1 => first | omega | assumption | ((try k_fmods); omega)); (case k1 => k_asm); (case k2 => k_asm); (case k3 => k_asm); (case k4 => exact nonews); (case k5 => k_asm); (case kK => first | exact rfl | assumption); (case kd => ktr_room); (case ku => ktr_units); intro v9 h9 tk9 hv9 F9 N9; obtain ⟨d9, t9, hv9, hd9⟩ := hv9; subst hv9; (try dsimp only at hd9); (try dsimp only); (try k_fold); (try k_sweep))
  | ((with_reducible rename Tn _ => tn9); refine' cl_use (in_F _ _ _ _ _ _ ?p0) ?k1 ?k2 ?k3 ?k4 ?k5 ?kK ?kd ?ku ?_; (case p0 => exact pairF_t tn9 (by first | rfl | omega) (by first | rfl | omega) (by first | rfl | omega)); (case k1 => k_asm); (case k2 => k_asm); (case k3 => k_asm); (case k4 => k_asm); (case k5 => k_asm); (case kK => first | exact rfl | assumption); (case kd => ktr_room); (case ku => ktr_units); intro v9 h9 tk9 hv9 F9 N9; subst hv9; (try dsimp only); (try k_fold); (try k_sweep))
  | ((with_reducible rename Tn _ => tn9); refine' cl_use (in_I _ _ _ _ _ _ ?p0) ?k1 ?k2 ?k3 ?k4 ?k5 ?kK ?kd ?ku ?_; (case p0 => exact pairI_t tn9 (by first | rfl | omega) (by first | rfl | omega) (by first | rfl | omega)); (case k1 => k_asm); (case k2 => k_asm); (case k3 => k_asm); (case k4 => k_asm); (case k5 => k_asm); (case kK => first | exact rfl | assumption); (case kd => ktr_room); (case ku => ktr_units); intro v9 h9 tk9 hv9 F9 N9; subst hv9; (try dsimp only); (try k_fold); (try k_sweep))
  | (refine' clP_use pairs_ok ?k1 ?k2 ?k3 ?k4 ?k5 ?kK ?kd ?ku ?_; (case k1 => k_asm); (case k2 => k_asm); (case k3 => k_asm); (case k4 => k_asm); (case k5 => k_asm); (case kK => first | exact rfl | assumption); (case kd => ktr_room); (case ku => ktr_units); intro l9 xs9 led9 h9 tk9 hs9 hr9 F9 N9; (try dsimp only); (try k_fold); (try k_sweep)))))
local macro_rules | `(tactic| walk_at "pyIter ref") => `(tactic| ((with_reducible show wpAny _ _ (pyIter (Value.ref _)) (fun it s₂ => LoopAtV _ _ _ _ _ _ _ _ _ it s₂) _ _); (rename Fr _ _ _ _ => lF'); (rename News _ _ _ _ => lN'); (rename IsRange _ _ _ _ _ _ _ _ => rgX); (with_unfolding_all refine' iter_law (y1 := Str.ofString "number") (y2 := Str.ofString "length") (y3 := Str.ofString "after") ⟨⟩ (by rfl) rgX ?hb ?hY lF' lN' (by rfl) (by rfl) ?hl (fun I' t' h' tk' hT' F' N' => ?_) (fun I' i' t' t'' t3' u' h' tk' yy' hT' hy0' hy1' F' N' => have nb9 := ny_bd (y := yy') (by omega) (by omega); have lb9 := yd_bd yy'; ?_) (fun u' t' t'' c' l' h' tk' F' N' => ?_)); (case hb => omega); (case hY => ((try k_fmods); constructor <;> omega)); (case hl => omega); all_goals (clear lF' lN'); all_goals (try k_fold)))
local macro_rules | `(tactic| walk_at "LPost") => `(tactic| (dsimp only [LPost]))
local macro_rules | `(tactic| walk_at "LEnd") => `(tactic| k_dflt (refine' LEnd.intro ?F ?N ?a ?b ?c ?d ?e; (case F => k_asm); (case N => k_asm); (case a => with_unfolding_all rfl); (case b => with_unfolding_all rfl); (case c => omega); (case d => omega); (case e => (intro z h1 h2 h3 h4; first | rfl | (simp only [if_neg h1, if_neg h2, if_neg h3, if_neg h4]; done) | (simp_all; done)))))
local macro_rules | `(tactic| walk_at "subscriptTail Call Name nil nil BinOp ref int") => `(tactic| (k_here; (with_reducible show wpAny _ _ (subscriptTail _ _ (Value.ref _) (Value.int (Int.fmod _ 30) _)) _ _ _); k_dflt (refine' my_row ?k1 ?k2 ?k3 ?k4 ?k5 ?_ ?k6; (case k1 => k_asm); (case k2 => k_asm); (case k3 => exact (b30 _).1); (case k4 => exact (b30 _).2); (case k5 => exact Int.lt_trans (b30 _).2 (by decide)); (case k6 => with_unfolding_all rfl)); intro a8 t0 t1 t2 t3 r0 r1 r2 r3 e8 m8))
local macro_rules | `(tactic| walk_at "subscriptTail Name Constant ref int") => `(tactic| (k_here; (with_reducible show wpAny _ _ (subscriptTail _ _ (Value.ref _) (Value.int _ _)) _ _ _); k_dflt (refine' my_tup ?k1 ?k2 ?k3 ?k4 ?k5 ?k6 ?_ ?k7; (case k1 => k_asm); (case k2 => repeat first | assumption | refine List.Mem.tail _ ?_); (case k3 => decide); (case k4 => decide); (case k5 => exact rfl); (case k6 => exact rfl); (case k7 => with_unfolding_all rfl); k_whole)))
local macro_rules | `(tactic| walk_at "compareOp Eq ref ref") => `(tactic| (k_here; (with_reducible show wpAny _ _ (compareOp CmpOp.Eq (Value.ref _) (Value.ref _)) _ _ _); k_dflt (refine' my_tup_eq ?N ?a ?b ?hu ?e0 ?e1 ?e2 ?p1 ?p2 ?_; (case N => k_asm); (case a => k_mem); (case b => k_mem); (case hu => exact Nat.lt_of_succ_le (Nat.le_of_ble_eq_true rfl)); (case e0 => omega); (case e1 => omega); (case e2 => omega); (case p1 => omega); (case p2 => omega))))
local macro_rules | `(tactic| walk_at "binaryOp Add int int") => `(tactic| first
  | ((with_reducible show wpAny _ _ (binaryOp _ (Value.int 1 _) (Value.int (Int.fmod _ (10 ^ Int.toNat 9)) _)) _ _ _); (k_dflt (refine' my_start ?_)); intro y9 hy9 hz9; (try dsimp only))
  | ((with_reducible show wpAny _ _ (binaryOp _ (Value.int _ _) (Value.int (689472 * Int.fmod _ 1000) _)) _ _ _); (k_dflt (refine' my_year (by assumption) ?_)); intro y9 hy9 hz9 hr9 hl9 ha9; (try dsimp only)))
theorem PySem.Challenge.cw_bd6013_02_holds : PySem.Challenge.rw_bd6013_02.Holds :=
  hd2 (by
    k_go0
    all_goals (try k_fold)
    k_steps)
