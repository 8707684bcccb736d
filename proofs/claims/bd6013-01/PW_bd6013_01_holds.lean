import PyProof.Rows.All
import Wide.All
import OpenK.AllK
import Wide.FinOn
import PySem.Challenge.RW_bd6013_01
set_option Elab.async false
set_option maxRecDepth 100000
namespace Mine
open PySem PySem.W PyProof.Rows in
set_option maxHeartbeats 8000000 in
open_top hd1 for PySem.Challenge.rw_bd6013_01
end Mine
section
namespace Mine
/-! the plain functions -/
@[irreducible] def leapB (y : Int) : Bool := decide ((y * 7 + 1) % 19 < 7)
@[irreducible] def mo (y : Int) : Int := (235 * y - 234) / 19
@[irreducible] def dd (y : Int) : Int := mo y * 29 + (12084 + 13753 * mo y) / 25920
@[irreducible] def d1 (y : Int) : Int := if 3 * (dd y + 1) % 7 < 3 then dd y + 1 else dd y
@[irreducible] def d2 (y : Int) : Int := if d1 (y + 1) - d1 y = 356 then 2 else if d1 y - d1 (y - 1) = 382 then 1 else 0
@[irreducible] def ny (y : Int) : Int := d1 y + d2 y
end Mine
end

section
set_option exponentiation.threshold 1100
namespace Mine
open PySem PySem.Float64

/-- half-integers as doubles: k halves -/
@[irreducible] def hf (k : Int) : UInt64 := ofFrac (decide (k < 0)) k.natAbs 2

theorem pow1073_pos : 0 < (2 : Nat) ^ 1073 := Nat.two_pow_pos _

theorem V_exact (n j : Nat) (hn : n < 2 ^ 53) (hj : j ≤ 1074) : ∃ t, t < infMag ∧ V t = n * 2 ^ j := by
  by_cases h0 : n = 0
  · subst h0
    exact ⟨0, by decide, by rw [V_zero]; simp⟩
  · have hl : 2 ^ n.log2 ≤ n := Nat.log2_self_le h0
    have hl2 : n < 2 ^ (n.log2 + 1) := Nat.lt_log2_self
    have hlog : n.log2 ≤ 52 := by
      have := (Nat.log2_lt h0).2 hn
      omega
    by_cases hc : 52 - n.log2 ≤ j
    · have hq1 : 2 ^ 52 ≤ n * 2 ^ (52 - n.log2) := by
        have e : (2:Nat) ^ 52 = 2 ^ n.log2 * 2 ^ (52 - n.log2) := by rw [← Nat.pow_add]; congr 1; omega
        rw [e]; exact Nat.mul_le_mul_right _ hl
      have hq2 : n * 2 ^ (52 - n.log2) < 2 ^ 53 := by
        have e : (2:Nat) ^ 53 = 2 ^ (n.log2 + 1) * 2 ^ (52 - n.log2) := by rw [← Nat.pow_add]; congr 1; omega
        rw [e]; exact Nat.mul_lt_mul_of_pos_right hl2 (Nat.two_pow_pos _)
      refine ⟨(j - (52 - n.log2)) * 2 ^ 52 + n * 2 ^ (52 - n.log2), ?_, ?_⟩
      · unfold infMag; omega
      · rw [V_at (by omega) (.inl hq1), Nat.mul_assoc, ← Nat.pow_add]
        congr 2; omega
    · have hq2 : n * 2 ^ j < 2 ^ 53 := by
        have e : (2:Nat) ^ 53 = 2 ^ (n.log2 + 1) * 2 ^ (52 - n.log2) := by rw [← Nat.pow_add]; congr 1; omega
        rw [e]
        calc n * 2 ^ j ≤ n * 2 ^ (52 - n.log2) := Nat.mul_le_mul_left _ (Nat.pow_le_pow_right (by decide) (by omega))
          _ < _ := Nat.mul_lt_mul_of_pos_right hl2 (Nat.two_pow_pos _)
      have := V_at (k := 0) (q := n * 2 ^ j) (by omega) (.inr rfl)
      refine ⟨0 * 2 ^ 52 + n * 2 ^ j, ?_, by rw [this]; simp⟩
      unfold infMag; omega

theorem V_inj {t t' : Nat} (h : V t = V t') : t = t' := by
  rcases Nat.lt_trichotomy t t' with h1 | h1 | h1
  · have := V_lt h1; omega
  · exact h1
  · have := V_lt h1; omega

theorem not_over {n : Nat} (hn : n < 2 ^ 53) : ¬ 1 * ((2 ^ 54 - 1) * 2 ^ 2045) ≤ 2 * (n * 2 ^ 1073) := by
  intro h
  have e : (2:Nat) ^ 2045 = 2 ^ 1073 * 2 ^ 972 := by rw [← Nat.pow_add]
  rw [e] at h
  have hp := pow1073_pos
  have h2 : 1 ≤ (2:Nat) ^ 972 := Nat.two_pow_pos _
  generalize (2:Nat) ^ 1073 = P at *
  generalize (2:Nat) ^ 972 = R at *
  have h3 : (2 ^ 54 - 1) * (P * 1) ≤ (2 ^ 54 - 1) * (P * R) := Nat.mul_le_mul_left _ (Nat.mul_le_mul_left _ h2)
  have h4 : n * P ≤ (2 ^ 53 - 1) * P := Nat.mul_le_mul_right _ (by omega)
  omega

theorem right_exact {r : UInt64} {neg : Bool} {n t₀ : Nat} (hn : n < 2 ^ 53) (hV : V t₀ = n * 2 ^ 1073) (h : Right r neg (n * 2 ^ 1073) 1) : r = pack neg t₀ ∧ t₀ < infMag := by
  obtain ⟨t, rfl, hle, hov, hnear⟩ := h
  have hlt : t < infMag := by
    rcases Nat.lt_or_ge t infMag with h | h
    · exact h
    · exact absurd (hov.1 (by omega)) (not_over hn)
  have h1 := (hnear hlt t₀).1
  rw [hV] at h1
  unfold dist at h1
  have : V t = V t₀ := by rw [hV]; omega
  have := V_inj this
  subst this
  exact ⟨rfl, hlt⟩

theorem hf_right (k : Int) : Right (hf k) (decide (k < 0)) (k.natAbs * 2 ^ 1073) 1 := by
  unfold hf
  exact ofFrac_right (by decide) (by rw [Nat.mul_one, Nat.mul_assoc, ← Nat.pow_succ]) (by decide)

theorem hf_of_right {r : UInt64} {k : Int} (hk : k.natAbs < 2 ^ 53) (h : Right r (decide (k < 0)) (k.natAbs * 2 ^ 1073) 1) : r = hf k := by
  obtain ⟨t, _, hV⟩ := V_exact k.natAbs 1073 hk (by decide)
  rw [(right_exact hk hV h).1, (right_exact hk hV (hf_right k)).1]

theorem sgn_decide (k : Int) : sgn (decide (k < 0)) k.natAbs = k := by
  unfold sgn
  split
  · rename_i h; simp at h; omega
  · rename_i h; simp at h; omega

theorem hf_decode {k : Int} (hk : k.natAbs < 2 ^ 53) : ∃ m e, decode (hf k) = .fin (decide (k < 0)) m e ∧ val (hf k) = k * 2 ^ 1073 ∧ m * 2 ^ (e + 1074).toNat = k.natAbs * 2 ^ 1073 := by
  obtain ⟨t, _, hV⟩ := V_exact k.natAbs 1073 hk (by decide)
  obtain ⟨hx, hlt⟩ := right_exact hk hV (hf_right k)
  obtain ⟨m, e, hd, hm⟩ := decode_pack (decide (k < 0)) hlt
  rw [← hx] at hd
  refine ⟨m, e, hd, ?_, by rw [hm, hV]⟩
  rw [val_eq hd, hm, hV, sgn_mul, sgn_decide]
  simp

theorem ofInt_hf {i : Int} (h : (2 * i).natAbs < 2 ^ 53) : ofInt i = hf (2 * i) := by
  refine hf_of_right h ?_
  have := ofInt_right i
  have e1 : decide (2 * i < 0) = decide (i < 0) := decide_eq_decide.mpr (by omega)
  have e2 : (2 * i).natAbs * 2 ^ 1073 = i.natAbs * 2 ^ 1074 := by
    rw [show (2:Nat) ^ 1074 = 2 ^ 1073 * 2 from Nat.pow_succ .., Int.natAbs_mul]
    generalize (2:Nat) ^ 1073 = P
    have e5 : Int.natAbs 2 = 2 := rfl
    rw [e5]
    ac_rfl
  rw [e1, e2]; exact this

theorem mulP_neg (c : Int) : decide (c * 2 ^ 1073 < 0) = decide (c < 0) := by
  have hp : (0 : Int) < 2 ^ 1073 := Int.pow_pos (by decide)
  apply decide_eq_decide.mpr
  constructor
  · intro h
    by_cases h2 : c < 0
    · exact h2
    · have := Int.mul_nonneg (show 0 ≤ c by omega) (Int.le_of_lt hp)
      omega
  · intro h; exact Int.mul_neg_of_neg_of_pos h hp
theorem mulP_abs (c : Int) : (c * 2 ^ 1073).natAbs = c.natAbs * 2 ^ 1073 := by
  rw [Int.natAbs_mul, Int.natAbs_pow]; rfl
theorem mulP_ne {c : Int} (h : c ≠ 0) : c * 2 ^ 1073 ≠ 0 := by
  have hp : (2 : Int) ^ 1073 ≠ 0 := Int.ne_of_gt (Int.pow_pos (by decide))
  exact Int.mul_ne_zero h hp

theorem add_hf {a b : Int} (ha : a.natAbs < 2 ^ 53) (hb : b.natAbs < 2 ^ 53) (hc : (a + b).natAbs < 2 ^ 53) (h0 : a + b ≠ 0) : add (hf a) (hf b) = hf (a + b) := by
  obtain ⟨m, e, hd, hv, _⟩ := hf_decode ha
  obtain ⟨k, f, hd', hv', _⟩ := hf_decode hb
  have h := (add_right hd hd').2
  rw [hv, hv', ← Int.add_mul, mulP_neg, mulP_abs] at h
  exact hf_of_right hc (h (mulP_ne h0))
theorem sub_hf {a b : Int} (ha : a.natAbs < 2 ^ 53) (hb : b.natAbs < 2 ^ 53) (hc : (a - b).natAbs < 2 ^ 53) (h0 : a - b ≠ 0) : sub (hf a) (hf b) = hf (a - b) := by
  obtain ⟨m, e, hd, hv, _⟩ := hf_decode ha
  obtain ⟨k, f, hd', hv', _⟩ := hf_decode hb
  have h := (sub_right hd hd').2
  rw [hv, hv', ← Int.sub_mul, mulP_neg, mulP_abs] at h
  exact hf_of_right hc (h (mulP_ne h0))
theorem scale_le (R Z W : Nat) (h : 0 < R) : R * Z ≤ 2 * (R * W) ↔ 1 * Z ≤ 2 * W := by
  rw [Nat.one_mul, show 2 * (R * W) = R * (2 * W) by ac_rfl]
  exact Nat.mul_le_mul_left_iff h
theorem mul2_hf {a : Int} (ha : a.natAbs < 2 ^ 50) : mul (ofInt 2) (hf a) = hf (2 * a) := by
  obtain ⟨m, e, hd, hv, _⟩ := hf_decode (k := a) (by omega)
  obtain ⟨k, f, hd', hv', _⟩ := hf_decode (k := 4) (by decide)
  have e2 : ofInt 2 = hf 4 := ofInt_hf (i := 2) (by decide)
  rw [e2]
  have h := mul_right hd' hd
  rw [hv, hv', mulP_abs, mulP_abs] at h
  refine hf_of_right (by omega) ?_
  obtain ⟨t, h1, h2, h3, h4⟩ := h
  have hp := Nat.two_pow_pos 1073
  have e3 : decide (2 * a < 0) = (decide ((4:Int) < 0) != decide (a < 0)) := by
    rw [show decide ((4:Int) < 0) = false by decide, Bool.false_bne]
    exact decide_eq_decide.mpr (by omega)
  rw [e3]
  have eA : Int.natAbs 4 * 2 ^ 1073 * (a.natAbs * 2 ^ 1073) = 2 ^ 1074 * ((2 * a).natAbs * 2 ^ 1073) := by
    rw [show (2:Nat) ^ 1074 = 2 ^ 1073 * 2 from Nat.pow_succ .., Int.natAbs_mul]
    generalize (2:Nat) ^ 1073 = P
    have e4 : Int.natAbs 4 = 2 * 2 := rfl
    have e5 : Int.natAbs 2 = 2 := rfl
    rw [e4, e5]
    ac_rfl
  rw [eA] at h3 h4
  have hP : 0 < (2:Nat) ^ 1074 := Nat.two_pow_pos _
  refine ⟨t, h1, h2, ?_, ?_⟩
  · exact h3.trans (scale_le _ _ _ hP)
  · intro h t'
    have := h4 h t'
    rw [dist_mul, dist_mul] at this
    refine ⟨?_, ?_⟩
    · rw [Nat.one_mul, Nat.one_mul]
      exact Nat.le_of_mul_le_mul_left this.1 hP
    · intro hne he
      rw [Nat.one_mul, Nat.one_mul] at he
      exact this.2 hne (by rw [he])
theorem cmpInt_hf {k i : Int} (hk : k.natAbs < 2 ^ 53) : cmpInt (hf k) i = some (compare k (2 * i)) := by
  obtain ⟨m, e, hd, hv, _⟩ := hf_decode hk
  rw [cmpInt_right hd, hv]
  have hp : (0 : Int) < 2 ^ 1073 := Int.pow_pos (by decide)
  have e1 : i * 2 ^ 1074 = 2 * i * 2 ^ 1073 := by
    rw [Int.pow_succ]; ac_rfl
  rw [e1]
  generalize (2 : Int) ^ 1073 = P at *
  congr 1
  rcases Int.lt_trichotomy k (2 * i) with h | h | h
  · rw [Int.compare_eq_lt.mpr h, Int.compare_eq_lt.mpr (Int.mul_lt_mul_of_pos_right h hp)]
  · rw [h]; simp
  · rw [Int.compare_eq_gt.mpr h, Int.compare_eq_gt.mpr (Int.mul_lt_mul_of_pos_right h hp)]
theorem hf_finite {k : Int} (hk : k.natAbs < 2 ^ 53) : isFinite (hf k) = true := by
  obtain ⟨m, e, hd, _⟩ := hf_decode hk
  unfold isFinite; rw [hd]

/-- the floor, out of the value -/
theorem floor_val {x : UInt64} {s : Bool} {m : Nat} {e : Int} (hd : decode x = .fin s m e) : floorOf s m e = val x / 2 ^ 1074 := by
  have he := decode_ge hd
  rw [val_eq hd, sgn_mul]
  unfold floorOf
  have hpow : ∀ n : Nat, ((2 ^ n : Nat) : Int) = (2 : Int) ^ n := fun n => by simp
  have hpos : ∀ n : Nat, (0 : Int) < (2 : Int) ^ n := fun n => Int.pow_pos (by decide)
  rw [hpow]
  split
  · rename_i h
    have e1 : (e + 1074).toNat = e.toNat + 1074 := by omega
    rw [e1, Int.pow_add, ← Int.mul_assoc, Int.mul_ediv_cancel _ (Int.ne_of_gt (hpos 1074))]
  · rename_i h
    have e1 : (2 : Int) ^ 1074 = 2 ^ (-e).toNat * 2 ^ (e + 1074).toNat := by rw [← Int.pow_add]; congr 1; omega
    rw [e1, Int.mul_ediv_mul_of_pos_left _ _ (hpos _), Int.fdiv_eq_ediv_of_nonneg _ (Int.le_of_lt (hpos _))]

theorem trunc_hf {k : Int} (h0 : 0 ≤ k) (hk : k.natAbs < 2 ^ 53) : Flt.toInt truncOf (hf k) = k / 2 := by
  obtain ⟨m, e, hd, hv, _⟩ := hf_decode hk
  rw [Flt.toInt_fin hd]
  have hs : decide (k < 0) = false := decide_eq_false (by omega)
  unfold truncOf
  rw [hs, if_neg (by decide), ← hs, floor_val hd, hv]
  have hp : (0 : Int) < 2 ^ 1073 := Int.pow_pos (by decide)
  rw [show (2 : Int) ^ 1074 = 2 * 2 ^ 1073 by rw [Int.pow_succ]; ac_rfl]
  exact Int.mul_ediv_mul_of_pos_left _ _ hp

/-- a quotient of ints as a double, its floor -/
theorem floor_quot {n d q s : Nat} (hd0 : 0 < d) (hs : s ≤ 1074) (hds : d ≤ 2 ^ s) (hq : q = n / d) (hfit : (q + 1) * 2 ^ s < 2 ^ 53) :
    isFinite (ofFrac false n d) = true ∧ Flt.toInt floorOf (ofFrac false n d) = (q : Int) := by
  have hR : Right (ofFrac false n d) false (n * 2 ^ 1074) d := ofFrac_right hd0 rfl hd0
  obtain ⟨t, hr, hle, hov, hnear⟩ := hR
  have hsp : 0 < 2 ^ s := Nat.two_pow_pos s
  have hq53 : q + 1 < 2 ^ 53 := by
    have : (q + 1) * 1 ≤ (q + 1) * 2 ^ s := Nat.mul_le_mul_left _ hsp
    omega
  have hn1 : q * d ≤ n := by rw [hq]; exact Nat.div_mul_le_self n d
  have hn2 : n + 1 ≤ (q + 1) * d := by
    rw [hq]
    have := Nat.lt_mul_div_succ n hd0
    rw [Nat.mul_comm] at this
    exact this
  obtain ⟨t0, ht0, hV0⟩ := V_exact q 1074 (by omega) (by omega)
  obtain ⟨t1, ht1, hV1⟩ := V_exact ((q + 1) * 2 ^ s - 1) (1074 - s) (by omega) (by omega)
  have hP : 0 < (2:Nat) ^ (1074 - s) := Nat.two_pow_pos _
  have eP : (2:Nat) ^ 1074 = 2 ^ s * 2 ^ (1074 - s) := by rw [← Nat.pow_add]; congr 1; omega
  have hlt : t < infMag := by
    rcases Nat.lt_or_ge t infMag with h | h
    · exact h
    · exfalso
      have h1 := hov.1 (by omega)
      have e : (2:Nat) ^ 2045 = 2 ^ 1074 * 2 ^ 971 := by rw [← Nat.pow_add]
      have h2 : 2 ^ 53 ≤ (2:Nat) ^ 971 := Nat.pow_le_pow_right (by decide) (by decide)
      have h3 : n < 2 ^ 53 * d := Nat.lt_of_lt_of_le hn2 (Nat.mul_le_mul_right _ (by omega))
      rw [e] at h1
      have hpp : 0 < (2:Nat) ^ 1074 := Nat.two_pow_pos _
      generalize (2:Nat) ^ 1074 = P at *
      generalize (2:Nat) ^ 971 = R at *
      have h4 : d * ((2 ^ 54 - 1) * (P * R)) = ((2 ^ 54 - 1) * (d * R)) * P := by ac_rfl
      have h5 : 2 * (n * P) = (2 * n) * P := by rw [Nat.mul_assoc]
      rw [h4, h5] at h1
      have h6 := Nat.le_of_mul_le_mul_right h1 hpp
      have h7 : d * 2 ^ 53 ≤ d * R := Nat.mul_le_mul_left _ h2
      omega
  have hx : ofFrac false n d = pack false t := hr
  obtain ⟨m, e, hdec, hm⟩ := decode_pack false hlt
  have hval : val (ofFrac false n d) = (V t : Int) := by rw [hx, val_pack false hlt]; rfl
  rw [← hx] at hdec
  refine ⟨by unfold isFinite; rw [hdec], ?_⟩
  rw [Flt.toInt_fin hdec, floor_val hdec, hval]
  have hpp : 0 < (2:Nat) ^ 1074 := Nat.two_pow_pos _
  -- from below
  have hlow : q * 2 ^ 1074 ≤ V t := by
    rcases Nat.lt_or_ge (V t) (q * 2 ^ 1074) with h | h
    · exfalso
      have h1 := (hnear hlt t0).1
      rw [hV0] at h1
      have h2 : d * V t < d * (q * 2 ^ 1074) := Nat.mul_lt_mul_of_pos_left h hd0
      have h3 : d * (q * 2 ^ 1074) ≤ n * 2 ^ 1074 := by
        rw [← Nat.mul_assoc, Nat.mul_comm d q]; exact Nat.mul_le_mul_right _ hn1
      unfold dist at h1
      omega
    · exact h
  -- from above
  have hup : V t < (q + 1) * 2 ^ 1074 := by
    rcases Nat.lt_or_ge (V t) ((q + 1) * 2 ^ 1074) with h | h
    · exact h
    · exfalso
      have h1 := (hnear hlt t1).1
      have hb : (q + 1) * 2 ^ 1074 = V t1 + 2 ^ (1074 - s) := by
        rw [hV1, Nat.sub_mul, eP, Nat.one_mul, ← Nat.mul_assoc]
        have : 1 * 2 ^ (1074 - s) ≤ (q + 1) * 2 ^ s * 2 ^ (1074 - s) := Nat.mul_le_mul_right _ (Nat.mul_pos (by omega) hsp)
        omega
      have h2 : d * V t1 < d * V t := Nat.mul_lt_mul_of_pos_left (by omega) hd0
      have h3 : n * 2 ^ 1074 ≤ d * V t1 := by
        have a1 : n * 2 ^ 1074 + 2 ^ 1074 ≤ d * ((q + 1) * 2 ^ 1074) := by
          have := Nat.mul_le_mul_right (2 ^ 1074) hn2
          rw [Nat.add_mul, Nat.one_mul] at this
          rw [← Nat.mul_assoc, Nat.mul_comm d (q + 1)]; exact this
        have a2 : d * 2 ^ (1074 - s) ≤ 2 ^ 1074 := by rw [eP]; exact Nat.mul_le_mul_right _ hds
        rw [hb, Nat.mul_add] at a1
        exact Nat.le_of_add_le_add_right (Nat.le_trans a1 (Nat.add_le_add_left a2 _))
      unfold dist at h1
      omega
  have g1 : (q : Int) * 2 ^ 1074 ≤ (V t : Int) := by
    have := Int.ofNat_le.mpr hlow
    simpa using this
  have g2 : (V t : Int) < ((q : Int) + 1) * 2 ^ 1074 := by
    have := Int.ofNat_lt.mpr hup
    simpa using this
  have hpi : (0 : Int) < 2 ^ 1074 := Int.pow_pos (by decide)
  apply Int.le_antisymm
  · exact Int.le_of_lt_add_one (Int.ediv_lt_of_lt_mul hpi g2)
  · exact Int.le_ediv_of_mul_le hpi g1

theorem ofBin_right {s : Bool} {M : Nat} {g : Int} (hg : -1074 ≤ g) : Right (ofBin s M g) s (M * 2 ^ (g + 1074).toNat) 1 := by
  unfold ofBin
  refine ofFrac_right (shift_pos _ _ _ (by decide)) ?_ (by decide)
  have := shift_one M g 1074 (by omega)
  rw [Nat.mul_one]
  exact this
theorem fmod_hf {a b : Int} (h0 : 0 ≤ a) (ha : a.natAbs < 2 ^ 53) (h1 : 0 < b) (hb : b.natAbs < 2 ^ 53) : fmod (hf a) (hf b) = hf (a % b) := by
  obtain ⟨m, e, hd, hv, hm⟩ := hf_decode ha
  obtain ⟨k, f, hd', hv', hk⟩ := hf_decode hb
  have he := decode_ge hd
  have hf' := decode_ge hd'
  have hr0 := Int.emod_nonneg a (Int.ne_of_gt h1)
  have hr1 := Int.emod_lt_of_pos a h1
  have hk0 : k ≠ 0 := by
    intro h
    rw [h, Nat.zero_mul] at hk
    have := Nat.mul_pos (show 0 < b.natAbs by omega) pow1073_pos
    omega
  have hfm : fmod (hf a) (hf b) = ofBin (decide (a < 0)) ((m * 2 ^ (e - min e f).toNat) % (k * 2 ^ (f - min e f).toNat)) (min e f) := by
    unfold fmod
    rw [hd, hd']
    simp only
    rw [if_neg (by simpa using hk0)]
    rfl
  rw [hfm]
  refine hf_of_right (by omega) ?_
  have e0 : decide (a % b < 0) = decide (a < 0) := decide_eq_decide.mpr (by omega)
  rw [e0]
  have := ofBin_right (s := decide (a < 0)) (M := (m * 2 ^ (e - min e f).toNat) % (k * 2 ^ (f - min e f).toNat)) (g := min e f) (by omega)
  have e1 : (m * 2 ^ (e - min e f).toNat) % (k * 2 ^ (f - min e f).toNat) * 2 ^ (min e f + 1074).toNat = (a % b).natAbs * 2 ^ 1073 := by
    rw [← Nat.mul_mod_mul_right, Nat.mul_assoc, Nat.mul_assoc, ← Nat.pow_add, ← Nat.pow_add]
    have i1 : (e - min e f).toNat + (min e f + 1074).toNat = (e + 1074).toNat := by omega
    have i2 : (f - min e f).toNat + (min e f + 1074).toNat = (f + 1074).toNat := by omega
    rw [i1, i2, hm, hk, Nat.mul_mod_mul_right]
    congr 1
    have c1 : a = (a.natAbs : Int) := by omega
    have c2 : b = (b.natAbs : Int) := by omega
    have c3 : ((a.natAbs % b.natAbs : Nat) : Int) = a % b := by
      rw [Int.natCast_emod, ← c1, ← c2]
    omega
  rw [← e1]
  exact this
theorem isZero_hf {k : Int} (hk : k.natAbs < 2 ^ 53) : isZero (hf k) = decide (k = 0) := by
  obtain ⟨m, e, hd, hv, hm⟩ := hf_decode hk
  unfold isZero
  rw [hd]
  by_cases h : k = 0
  · subst h
    have : m = 0 := by
      have h2 : m * 2 ^ (e + 1074).toNat = 0 := by rw [hm]; simp
      rcases Nat.mul_eq_zero.mp h2 with h3 | h3
      · exact h3
      · exact absurd h3 (Nat.ne_of_gt (Nat.two_pow_pos _))
    subst this
    rfl
  · have : m ≠ 0 := by
      intro h2
      rw [h2, Nat.zero_mul] at hm
      have := Nat.mul_pos (show 0 < k.natAbs by omega) pow1073_pos
      omega
    rw [decide_eq_false h]
    cases m with
    | zero => exact absurd rfl this
    | succ m => rfl
theorem zero_hf : zero false = hf 0 := by unfold hf; decide +kernel
theorem cmp_hf {a b : Int} (ha : a.natAbs < 2 ^ 53) (hb : b.natAbs < 2 ^ 53) : cmp (hf a) (hf b) = some (compare a b) := by
  obtain ⟨m, e, hd, hv, _⟩ := hf_decode ha
  obtain ⟨k, f, hd', hv', _⟩ := hf_decode hb
  rw [cmp_right hd hd', hv, hv']
  have hp : (0 : Int) < 2 ^ 1073 := Int.pow_pos (by decide)
  generalize (2 : Int) ^ 1073 = P at *
  congr 1
  rcases Int.lt_trichotomy a b with h | h | h
  · rw [Int.compare_eq_lt.mpr h, Int.compare_eq_lt.mpr (Int.mul_lt_mul_of_pos_right h hp)]
  · rw [h]; simp
  · rw [Int.compare_eq_gt.mpr h, Int.compare_eq_gt.mpr (Int.mul_lt_mul_of_pos_right h hp)]
theorem signBit_hf {b : Int} (h : 0 < b) (hb : b.natAbs < 2 ^ 53) : signBit (hf b) = false ∧ isNaN (hf b) = false := by
  obtain ⟨m, e, hd, hv, _⟩ := hf_decode hb
  have hs : decide (b < 0) = false := decide_eq_false (by omega)
  rw [hs] at hd
  refine ⟨?_, by unfold isNaN; rw [hd]⟩
  unfold decode at hd
  simp only at hd
  unfold signBit
  split at hd
  · split at hd <;> cases hd
  · split at hd
    · injection hd
    · injection hd
theorem copysign_zero_hf {b : Int} (h : 0 < b) (hb : b.natAbs < 2 ^ 53) : copysign (zero false) (hf b) = hf 0 := by
  unfold copysign
  rw [(signBit_hf h hb).1]
  unfold hf; decide +kernel
theorem mod_hf {a n : Int} (h0 : 0 ≤ a) (ha : a.natAbs < 2 ^ 53) (h1 : 0 < n) (hb : (2 * n).natAbs < 2 ^ 53) : (divmod (hf a) (ofInt n)).2 = hf (a % (2 * n)) := by
  rw [ofInt_hf hb]
  have hr0 := Int.emod_nonneg a (show (2 * n) ≠ 0 by omega)
  have hr1 := Int.emod_lt_of_pos a (show 0 < 2 * n by omega)
  unfold divmod
  rw [fmod_hf h0 ha (by omega) hb]
  simp only
  rw [isZero_hf (by omega)]
  by_cases hz : a % (2 * n) = 0
  · rw [if_pos (by simpa using hz), hz]
    simp only
    exact copysign_zero_hf (by omega) hb
  · rw [if_neg (by simpa using hz)]
    have l1 : lt (hf (2 * n)) (zero false) = false := by
      unfold lt
      rw [zero_hf, cmp_hf hb (by decide), Int.compare_eq_gt.mpr (by omega)]
      rfl
    have l2 : lt (hf (a % (2 * n))) (zero false) = false := by
      unfold lt
      rw [zero_hf, cmp_hf (by omega) (by decide), Int.compare_eq_gt.mpr (by omega)]
      rfl
    rw [l1, l2, if_neg (by decide)]
theorem epoch_hf : (4689722129631936512 : UInt64) = hf 695991 := by unfold hf; decide +kernel
theorem half_hf : (4602678819172646912 : UInt64) = hf 1 := by unfold hf; decide +kernel
end Mine
end

section
namespace Mine
theorem dd_eq (y : Int) : dd y = (12084 + 765433 * mo y) / 25920 := by
  unfold dd; omega
theorem leap_iff (y : Int) : leapB y = true ↔ (y * 7 + 1) % 19 < 7 := by unfold leapB; exact decide_eq_true_iff
theorem mod19 (y : Int) : ∃ k : Int, y = 19 * k + 0 ∨ y = 19 * k + 1 ∨ y = 19 * k + 2 ∨ y = 19 * k + 3 ∨ y = 19 * k + 4 ∨ y = 19 * k + 5 ∨ y = 19 * k + 6 ∨ y = 19 * k + 7 ∨ y = 19 * k + 8 ∨ y = 19 * k + 9 ∨ y = 19 * k + 10 ∨ y = 19 * k + 11 ∨ y = 19 * k + 12 ∨ y = 19 * k + 13 ∨ y = 19 * k + 14 ∨ y = 19 * k + 15 ∨ y = 19 * k + 16 ∨ y = 19 * k + 17 ∨ y = 19 * k + 18 := ⟨y / 19, by omega⟩
theorem mo_next (y : Int) : (leapB y = true ∧ mo (y + 1) = mo y + 13) ∨ (leapB y = false ∧ mo (y + 1) = mo y + 12) := by
  unfold leapB mo
  simp only [decide_eq_true_eq, decide_eq_false_iff_not]
  obtain ⟨k, h⟩ := mod19 y
  rcases h with rfl | rfl | rfl | rfl | rfl | rfl | rfl | rfl | rfl | rfl | rfl | rfl | rfl | rfl | rfl | rfl | rfl | rfl | rfl <;> omega
theorem mo_leap {y : Int} (h : leapB y = true) : mo (y + 1) = mo y + 13 := by
  rcases mo_next y with h1 | h1
  · exact h1.2
  · rw [h] at h1; cases h1.1
theorem mo_plain {y : Int} (h : leapB y = false) : mo (y + 1) = mo y + 12 := by
  rcases mo_next y with h1 | h1
  · rw [h] at h1; cases h1.1
  · exact h1.2
/-- no two long years follow one another, no three short ones -/
theorem leap_gap (y : Int) : (leapB y = true → leapB (y + 1) = false) ∧ (leapB y = false → leapB (y + 1) = false → leapB (y + 2) = true) := by
  unfold leapB
  simp only [decide_eq_true_eq, decide_eq_false_iff_not]
  obtain ⟨k, h⟩ := mod19 y
  rcases h with rfl | rfl | rfl | rfl | rfl | rfl | rfl | rfl | rfl | rfl | rfl | rfl | rfl | rfl | rfl | rfl | rfl | rfl | rfl <;> omega
theorem d1_rel (y : Int) : (3 * (dd y + 1) % 7 < 3 ∧ d1 y = dd y + 1) ∨ (3 ≤ 3 * (dd y + 1) % 7 ∧ d1 y = dd y) := by
  unfold d1; split <;> omega
theorem d2_rel (y : Int) : (d1 (y + 1) - d1 y = 356 ∧ d2 y = 2) ∨ (d1 (y + 1) - d1 y ≠ 356 ∧ d1 y - d1 (y - 1) = 382 ∧ d2 y = 1) ∨ (d1 (y + 1) - d1 y ≠ 356 ∧ d1 y - d1 (y - 1) ≠ 382 ∧ d2 y = 0) := by
  unfold d2; (repeat' split) <;> omega
/-- part of the day of the moon, with the six hours added -/
@[irreducible] def fp (y : Int) : Int := (12084 + 765433 * mo y) % 25920

theorem dd_next {y : Int} (h : leapB y = false) : (fp y < 16404 ∧ dd (y + 1) = dd y + 354 ∧ fp (y + 1) = fp y + 9516) ∨ (16404 ≤ fp y ∧ dd (y + 1) = dd y + 355 ∧ fp (y + 1) = fp y - 16404) := by
  rw [dd_eq, dd_eq]; unfold fp; rw [mo_plain h]; omega
theorem dd_nextL {y : Int} (h : leapB y = true) : (fp y < 2651 ∧ dd (y + 1) = dd y + 383 ∧ fp (y + 1) = fp y + 23269) ∨ (2651 ≤ fp y ∧ dd (y + 1) = dd y + 384 ∧ fp (y + 1) = fp y - 2651) := by
  rw [dd_eq, dd_eq]; unfold fp; rw [mo_leap h]; omega
theorem fp_bd (y : Int) : 0 ≤ fp y ∧ fp y < 25920 := by unfold fp; omega

/-- the four delays -/
theorem ny_rule (y : Int) :
    (dd y % 7 = 2 ∧ ny y = dd y + 1) ∨ (dd y % 7 = 4 ∧ ny y = dd y + 1) ∨ (dd y % 7 = 6 ∧ ny y = dd y + 1) ∨
    (dd y % 7 = 1 ∧ 16404 ≤ fp y ∧ leapB y = false ∧ ny y = dd y + 2) ∨
    (dd y % 7 = 1 ∧ (fp y < 16404 ∨ leapB y = true) ∧ ny y = dd y) ∨
    (dd y % 7 = 0 ∧ 23269 ≤ fp y ∧ leapB (y - 1) = true ∧ ny y = dd y + 1) ∨
    (dd y % 7 = 0 ∧ (fp y < 23269 ∨ leapB (y - 1) = false) ∧ ny y = dd y) ∨
    (dd y % 7 = 3 ∧ ny y = dd y) ∨ (dd y % 7 = 5 ∧ ny y = dd y) := by
  have a1 := d1_rel (y - 1)
  have a2 := d1_rel y
  have a3 := d1_rel (y + 1)
  have a4 := d2_rel y
  have b0 := fp_bd y
  have g := (leap_gap (y - 1)).1
  have e : y - 1 + 1 = y := by omega
  rw [e] at g
  unfold ny
  have hw : dd y % 7 = 0 ∨ dd y % 7 = 1 ∨ dd y % 7 = 2 ∨ dd y % 7 = 3 ∨ dd y % 7 = 4 ∨ dd y % 7 = 5 ∨ dd y % 7 = 6 := by omega
  cases hp : leapB (y - 1) <;> cases hl : leapB y
  · have c1 := dd_next hp
    have c2 := dd_next hl
    rw [e] at c1
    have b1 := fp_bd (y - 1)
    rcases hw with hw | hw | hw | hw | hw | hw | hw <;> simp [hw] <;> omega
  · have c1 := dd_next hp
    have c2 := dd_nextL hl
    rw [e] at c1
    have b1 := fp_bd (y - 1)
    rcases hw with hw | hw | hw | hw | hw | hw | hw <;> simp [hw] <;> omega
  · have c1 := dd_nextL hp
    have c2 := dd_next hl
    rw [e] at c1
    have b1 := fp_bd (y - 1)
    rcases hw with hw | hw | hw | hw | hw | hw | hw <;> simp [hw] <;> omega
  · exact absurd (g hp) (by rw [hl]; decide)
end Mine
end

section
namespace Mine
theorem ny_246 {y : Int} (h : dd y % 7 = 2 ∨ dd y % 7 = 4 ∨ dd y % 7 = 6) : ny y = dd y + 1 := by have := ny_rule y; omega
theorem ny_35 {y : Int} (h : dd y % 7 = 3 ∨ dd y % 7 = 5) : ny y = dd y := by have := ny_rule y; omega
theorem ny_1a {y : Int} (h : dd y % 7 = 1) (hf : 16404 ≤ fp y) (hl : leapB y = false) : ny y = dd y + 2 := by have := ny_rule y; simp only [hl, Bool.false_eq_true, or_false] at this; omega
theorem ny_1b {y : Int} (h : dd y % 7 = 1) (hf : fp y < 16404) : ny y = dd y := by have := ny_rule y; omega
theorem ny_1c {y : Int} (h : dd y % 7 = 1) (hl : leapB y = true) : ny y = dd y := by have := ny_rule y; simp only [hl, Bool.true_eq_false, false_and, and_false, false_or] at this; omega
theorem ny_0a {y : Int} (h : dd y % 7 = 0) (hf : 23269 ≤ fp y) (hl : leapB (y - 1) = true) : ny y = dd y + 1 := by have := ny_rule y; simp only [hl, Bool.true_eq_false, or_false] at this; omega
theorem ny_0b {y : Int} (h : dd y % 7 = 0) (hf : fp y < 23269) : ny y = dd y := by have := ny_rule y; omega
theorem ny_0c {y : Int} (h : dd y % 7 = 0) (hl : leapB (y - 1) = false) : ny y = dd y := by have := ny_rule y; simp only [hl, Bool.false_eq_true, false_and, and_false, false_or] at this; omega
theorem dd_a {y : Int} (h : leapB y = false) (hf : fp y < 16404) : dd (y + 1) = dd y + 354 ∧ fp (y + 1) = fp y + 9516 := by have := dd_next h; omega
theorem dd_b {y : Int} (h : leapB y = false) (hf : 16404 ≤ fp y) : dd (y + 1) = dd y + 355 ∧ fp (y + 1) = fp y - 16404 := by have := dd_next h; omega
theorem dd_c {y : Int} (h : leapB y = true) (hf : fp y < 2651) : dd (y + 1) = dd y + 383 ∧ fp (y + 1) = fp y + 23269 := by have := dd_nextL h; omega
theorem dd_d {y : Int} (h : leapB y = true) (hf : 2651 ≤ fp y) : dd (y + 1) = dd y + 384 ∧ fp (y + 1) = fp y - 2651 := by have := dd_nextL h; omega
/-- how far 1 Tishri begins behind its moon -/
@[irreducible] def b7 (y : Int) : Int := ny y * 25920 - (5604 + mo y * 765433)
theorem b7_eq (y : Int) : b7 y = (ny y - dd y) * 25920 - fp y + 6480 := by unfold b7 fp; have := dd_eq y; omega
def Kind (y : Int) : Prop :=
  (leapB y = false ∧ (ny (y + 1) - ny y = 353 ∧ 15997 ≤ b7 y ∨ ny (y + 1) - ny y = 354 ∧ -9923 ≤ b7 y ∨ ny (y + 1) - ny y = 355 ∧ b7 y ≤ 25512)) ∨
  (leapB y = true ∧ (ny (y + 1) - ny y = 383 ∧ 3830 ≤ b7 y ∨ ny (y + 1) - ny y = 384 ∧ b7 y ≤ 39265 ∨ ny (y + 1) - ny y = 385 ∧ b7 y ≤ 13345))
theorem k_leaf1 {y : Int} (hp : leapB (y - 1) = false) (hl : leapB y = false) (hn : leapB (y + 1) = true) (hw : dd y % 7 = 0) (h0 : 0 ≤ fp y) (h1 : fp y < 2651) : Kind y := by
  have e1 : y + 1 - 1 = y := by omega
  have n0 := ny_0c (y := y) (by omega) hp
  have s0 := dd_a (y := y) hl (by omega)
  have n1 := ny_246 (y := (y + 1)) (by omega)
  have q := b7_eq y
  exact Or.inl ⟨hl, Or.inr (Or.inr ⟨by omega, by omega⟩)⟩
theorem k_leaf2 {y : Int} (hp : leapB (y - 1) = false) (hl : leapB y = false) (hn : leapB (y + 1) = true) (hw : dd y % 7 = 0) (h0 : 2651 ≤ fp y) (h1 : fp y < 6888) : Kind y := by
  have e1 : y + 1 - 1 = y := by omega
  have n0 := ny_0c (y := y) (by omega) hp
  have s0 := dd_a (y := y) hl (by omega)
  have n1 := ny_246 (y := (y + 1)) (by omega)
  have q := b7_eq y
  exact Or.inl ⟨hl, Or.inr (Or.inr ⟨by omega, by omega⟩)⟩
theorem k_leaf3 {y : Int} (hp : leapB (y - 1) = false) (hl : leapB y = false) (hn : leapB (y + 1) = true) (hw : dd y % 7 = 0) (h0 : 6888 ≤ fp y) (h1 : fp y < 13753) : Kind y := by
  have e1 : y + 1 - 1 = y := by omega
  have n0 := ny_0c (y := y) (by omega) hp
  have s0 := dd_a (y := y) hl (by omega)
  have n1 := ny_246 (y := (y + 1)) (by omega)
  have q := b7_eq y
  exact Or.inl ⟨hl, Or.inr (Or.inr ⟨by omega, by omega⟩)⟩
theorem k_leaf4 {y : Int} (hp : leapB (y - 1) = false) (hl : leapB y = false) (hn : leapB (y + 1) = true) (hw : dd y % 7 = 0) (h0 : 13753 ≤ fp y) (h1 : fp y < 16404) : Kind y := by
  have e1 : y + 1 - 1 = y := by omega
  have n0 := ny_0c (y := y) (by omega) hp
  have s0 := dd_a (y := y) hl (by omega)
  have n1 := ny_246 (y := (y + 1)) (by omega)
  have q := b7_eq y
  exact Or.inl ⟨hl, Or.inr (Or.inr ⟨by omega, by omega⟩)⟩
theorem k_leaf5 {y : Int} (hp : leapB (y - 1) = false) (hl : leapB y = false) (hn : leapB (y + 1) = true) (hw : dd y % 7 = 0) (h0 : 16404 ≤ fp y) (h1 : fp y < 19055) : Kind y := by
  have e1 : y + 1 - 1 = y := by omega
  have n0 := ny_0c (y := y) (by omega) hp
  have s0 := dd_b (y := y) hl (by omega)
  have n1 := ny_35 (y := (y + 1)) (by omega)
  have q := b7_eq y
  exact Or.inl ⟨hl, Or.inr (Or.inr ⟨by omega, by omega⟩)⟩
theorem k_leaf6 {y : Int} (hp : leapB (y - 1) = false) (hl : leapB y = false) (hn : leapB (y + 1) = true) (hw : dd y % 7 = 0) (h0 : 19055 ≤ fp y) (h1 : fp y < 23269) : Kind y := by
  have e1 : y + 1 - 1 = y := by omega
  have n0 := ny_0c (y := y) (by omega) hp
  have s0 := dd_b (y := y) hl (by omega)
  have n1 := ny_35 (y := (y + 1)) (by omega)
  have q := b7_eq y
  exact Or.inl ⟨hl, Or.inr (Or.inr ⟨by omega, by omega⟩)⟩
theorem k_leaf7 {y : Int} (hp : leapB (y - 1) = false) (hl : leapB y = false) (hn : leapB (y + 1) = true) (hw : dd y % 7 = 0) (h0 : 23269 ≤ fp y) (h1 : fp y < 25920) : Kind y := by
  have e1 : y + 1 - 1 = y := by omega
  have n0 := ny_0c (y := y) (by omega) hp
  have s0 := dd_b (y := y) hl (by omega)
  have n1 := ny_35 (y := (y + 1)) (by omega)
  have q := b7_eq y
  exact Or.inl ⟨hl, Or.inr (Or.inr ⟨by omega, by omega⟩)⟩
theorem k_leaf8 {y : Int} (hp : leapB (y - 1) = false) (hl : leapB y = false) (hn : leapB (y + 1) = true) (hw : dd y % 7 = 1) (h0 : 0 ≤ fp y) (h1 : fp y < 2651) : Kind y := by
  have e1 : y + 1 - 1 = y := by omega
  have n0 := ny_1b (y := y) (by omega) (by omega)
  have s0 := dd_a (y := y) hl (by omega)
  have n1 := ny_35 (y := (y + 1)) (by omega)
  have q := b7_eq y
  exact Or.inl ⟨hl, Or.inr (Or.inl ⟨by omega, by omega⟩)⟩
theorem k_leaf9 {y : Int} (hp : leapB (y - 1) = false) (hl : leapB y = false) (hn : leapB (y + 1) = true) (hw : dd y % 7 = 1) (h0 : 2651 ≤ fp y) (h1 : fp y < 6888) : Kind y := by
  have e1 : y + 1 - 1 = y := by omega
  have n0 := ny_1b (y := y) (by omega) (by omega)
  have s0 := dd_a (y := y) hl (by omega)
  have n1 := ny_35 (y := (y + 1)) (by omega)
  have q := b7_eq y
  exact Or.inl ⟨hl, Or.inr (Or.inl ⟨by omega, by omega⟩)⟩
theorem k_leaf10 {y : Int} (hp : leapB (y - 1) = false) (hl : leapB y = false) (hn : leapB (y + 1) = true) (hw : dd y % 7 = 1) (h0 : 6888 ≤ fp y) (h1 : fp y < 13753) : Kind y := by
  have e1 : y + 1 - 1 = y := by omega
  have n0 := ny_1b (y := y) (by omega) (by omega)
  have s0 := dd_a (y := y) hl (by omega)
  have n1 := ny_35 (y := (y + 1)) (by omega)
  have q := b7_eq y
  exact Or.inl ⟨hl, Or.inr (Or.inl ⟨by omega, by omega⟩)⟩
theorem k_leaf11 {y : Int} (hp : leapB (y - 1) = false) (hl : leapB y = false) (hn : leapB (y + 1) = true) (hw : dd y % 7 = 1) (h0 : 13753 ≤ fp y) (h1 : fp y < 16404) : Kind y := by
  have e1 : y + 1 - 1 = y := by omega
  have n0 := ny_1b (y := y) (by omega) (by omega)
  have s0 := dd_a (y := y) hl (by omega)
  have n1 := ny_35 (y := (y + 1)) (by omega)
  have q := b7_eq y
  exact Or.inl ⟨hl, Or.inr (Or.inl ⟨by omega, by omega⟩)⟩
theorem k_leaf12 {y : Int} (hp : leapB (y - 1) = false) (hl : leapB y = false) (hn : leapB (y + 1) = true) (hw : dd y % 7 = 1) (h0 : 16404 ≤ fp y) (h1 : fp y < 19055) : Kind y := by
  have e1 : y + 1 - 1 = y := by omega
  have n0 := ny_1a (y := y) (by omega) (by omega) hl
  have s0 := dd_b (y := y) hl (by omega)
  have n1 := ny_246 (y := (y + 1)) (by omega)
  have q := b7_eq y
  exact Or.inl ⟨hl, Or.inr (Or.inl ⟨by omega, by omega⟩)⟩
theorem k_leaf13 {y : Int} (hp : leapB (y - 1) = false) (hl : leapB y = false) (hn : leapB (y + 1) = true) (hw : dd y % 7 = 1) (h0 : 19055 ≤ fp y) (h1 : fp y < 23269) : Kind y := by
  have e1 : y + 1 - 1 = y := by omega
  have n0 := ny_1a (y := y) (by omega) (by omega) hl
  have s0 := dd_b (y := y) hl (by omega)
  have n1 := ny_246 (y := (y + 1)) (by omega)
  have q := b7_eq y
  exact Or.inl ⟨hl, Or.inr (Or.inl ⟨by omega, by omega⟩)⟩
theorem k_leaf14 {y : Int} (hp : leapB (y - 1) = false) (hl : leapB y = false) (hn : leapB (y + 1) = true) (hw : dd y % 7 = 1) (h0 : 23269 ≤ fp y) (h1 : fp y < 25920) : Kind y := by
  have e1 : y + 1 - 1 = y := by omega
  have n0 := ny_1a (y := y) (by omega) (by omega) hl
  have s0 := dd_b (y := y) hl (by omega)
  have n1 := ny_246 (y := (y + 1)) (by omega)
  have q := b7_eq y
  exact Or.inl ⟨hl, Or.inr (Or.inl ⟨by omega, by omega⟩)⟩
theorem k_leaf15 {y : Int} (hp : leapB (y - 1) = false) (hl : leapB y = false) (hn : leapB (y + 1) = true) (hw : dd y % 7 = 2) (h0 : 0 ≤ fp y) (h1 : fp y < 2651) : Kind y := by
  have e1 : y + 1 - 1 = y := by omega
  have n0 := ny_246 (y := y) (by omega)
  have s0 := dd_a (y := y) hl (by omega)
  have n1 := ny_246 (y := (y + 1)) (by omega)
  have q := b7_eq y
  exact Or.inl ⟨hl, Or.inr (Or.inl ⟨by omega, by omega⟩)⟩
theorem k_leaf16 {y : Int} (hp : leapB (y - 1) = false) (hl : leapB y = false) (hn : leapB (y + 1) = true) (hw : dd y % 7 = 2) (h0 : 2651 ≤ fp y) (h1 : fp y < 6888) : Kind y := by
  have e1 : y + 1 - 1 = y := by omega
  have n0 := ny_246 (y := y) (by omega)
  have s0 := dd_a (y := y) hl (by omega)
  have n1 := ny_246 (y := (y + 1)) (by omega)
  have q := b7_eq y
  exact Or.inl ⟨hl, Or.inr (Or.inl ⟨by omega, by omega⟩)⟩
theorem k_leaf17 {y : Int} (hp : leapB (y - 1) = false) (hl : leapB y = false) (hn : leapB (y + 1) = true) (hw : dd y % 7 = 2) (h0 : 6888 ≤ fp y) (h1 : fp y < 13753) : Kind y := by
  have e1 : y + 1 - 1 = y := by omega
  have n0 := ny_246 (y := y) (by omega)
  have s0 := dd_a (y := y) hl (by omega)
  have n1 := ny_246 (y := (y + 1)) (by omega)
  have q := b7_eq y
  exact Or.inl ⟨hl, Or.inr (Or.inl ⟨by omega, by omega⟩)⟩
theorem k_leaf18 {y : Int} (hp : leapB (y - 1) = false) (hl : leapB y = false) (hn : leapB (y + 1) = true) (hw : dd y % 7 = 2) (h0 : 13753 ≤ fp y) (h1 : fp y < 16404) : Kind y := by
  have e1 : y + 1 - 1 = y := by omega
  have n0 := ny_246 (y := y) (by omega)
  have s0 := dd_a (y := y) hl (by omega)
  have n1 := ny_246 (y := (y + 1)) (by omega)
  have q := b7_eq y
  exact Or.inl ⟨hl, Or.inr (Or.inl ⟨by omega, by omega⟩)⟩
theorem k_leaf19 {y : Int} (hp : leapB (y - 1) = false) (hl : leapB y = false) (hn : leapB (y + 1) = true) (hw : dd y % 7 = 2) (h0 : 16404 ≤ fp y) (h1 : fp y < 19055) : Kind y := by
  have e1 : y + 1 - 1 = y := by omega
  have n0 := ny_246 (y := y) (by omega)
  have s0 := dd_b (y := y) hl (by omega)
  have n1 := ny_0c (y := (y + 1)) (by omega) (by rw [e1]; exact hl)
  have q := b7_eq y
  exact Or.inl ⟨hl, Or.inr (Or.inl ⟨by omega, by omega⟩)⟩
theorem k_leaf20 {y : Int} (hp : leapB (y - 1) = false) (hl : leapB y = false) (hn : leapB (y + 1) = true) (hw : dd y % 7 = 2) (h0 : 19055 ≤ fp y) (h1 : fp y < 23269) : Kind y := by
  have e1 : y + 1 - 1 = y := by omega
  have n0 := ny_246 (y := y) (by omega)
  have s0 := dd_b (y := y) hl (by omega)
  have n1 := ny_0c (y := (y + 1)) (by omega) (by rw [e1]; exact hl)
  have q := b7_eq y
  exact Or.inl ⟨hl, Or.inr (Or.inl ⟨by omega, by omega⟩)⟩
theorem k_leaf21 {y : Int} (hp : leapB (y - 1) = false) (hl : leapB y = false) (hn : leapB (y + 1) = true) (hw : dd y % 7 = 2) (h0 : 23269 ≤ fp y) (h1 : fp y < 25920) : Kind y := by
  have e1 : y + 1 - 1 = y := by omega
  have n0 := ny_246 (y := y) (by omega)
  have s0 := dd_b (y := y) hl (by omega)
  have n1 := ny_0c (y := (y + 1)) (by omega) (by rw [e1]; exact hl)
  have q := b7_eq y
  exact Or.inl ⟨hl, Or.inr (Or.inl ⟨by omega, by omega⟩)⟩
theorem k_leaf22 {y : Int} (hp : leapB (y - 1) = false) (hl : leapB y = false) (hn : leapB (y + 1) = true) (hw : dd y % 7 = 3) (h0 : 0 ≤ fp y) (h1 : fp y < 2651) : Kind y := by
  have e1 : y + 1 - 1 = y := by omega
  have n0 := ny_35 (y := y) (by omega)
  have s0 := dd_a (y := y) hl (by omega)
  have n1 := ny_0c (y := (y + 1)) (by omega) (by rw [e1]; exact hl)
  have q := b7_eq y
  exact Or.inl ⟨hl, Or.inr (Or.inl ⟨by omega, by omega⟩)⟩
theorem k_leaf23 {y : Int} (hp : leapB (y - 1) = false) (hl : leapB y = false) (hn : leapB (y + 1) = true) (hw : dd y % 7 = 3) (h0 : 2651 ≤ fp y) (h1 : fp y < 6888) : Kind y := by
  have e1 : y + 1 - 1 = y := by omega
  have n0 := ny_35 (y := y) (by omega)
  have s0 := dd_a (y := y) hl (by omega)
  have n1 := ny_0c (y := (y + 1)) (by omega) (by rw [e1]; exact hl)
  have q := b7_eq y
  exact Or.inl ⟨hl, Or.inr (Or.inl ⟨by omega, by omega⟩)⟩
theorem k_leaf24 {y : Int} (hp : leapB (y - 1) = false) (hl : leapB y = false) (hn : leapB (y + 1) = true) (hw : dd y % 7 = 3) (h0 : 6888 ≤ fp y) (h1 : fp y < 13753) : Kind y := by
  have e1 : y + 1 - 1 = y := by omega
  have n0 := ny_35 (y := y) (by omega)
  have s0 := dd_a (y := y) hl (by omega)
  have n1 := ny_0c (y := (y + 1)) (by omega) (by rw [e1]; exact hl)
  have q := b7_eq y
  exact Or.inl ⟨hl, Or.inr (Or.inl ⟨by omega, by omega⟩)⟩
theorem k_leaf25 {y : Int} (hp : leapB (y - 1) = false) (hl : leapB y = false) (hn : leapB (y + 1) = true) (hw : dd y % 7 = 3) (h0 : 13753 ≤ fp y) (h1 : fp y < 16404) : Kind y := by
  have e1 : y + 1 - 1 = y := by omega
  have n0 := ny_35 (y := y) (by omega)
  have s0 := dd_a (y := y) hl (by omega)
  have n1 := ny_0c (y := (y + 1)) (by omega) (by rw [e1]; exact hl)
  have q := b7_eq y
  exact Or.inl ⟨hl, Or.inr (Or.inl ⟨by omega, by omega⟩)⟩
theorem k_leaf26 {y : Int} (hp : leapB (y - 1) = false) (hl : leapB y = false) (hn : leapB (y + 1) = true) (hw : dd y % 7 = 3) (h0 : 16404 ≤ fp y) (h1 : fp y < 19055) : Kind y := by
  have e1 : y + 1 - 1 = y := by omega
  have n0 := ny_35 (y := y) (by omega)
  have s0 := dd_b (y := y) hl (by omega)
  have n1 := ny_1c (y := (y + 1)) (by omega) hn
  have q := b7_eq y
  exact Or.inl ⟨hl, Or.inr (Or.inr ⟨by omega, by omega⟩)⟩
theorem k_leaf27 {y : Int} (hp : leapB (y - 1) = false) (hl : leapB y = false) (hn : leapB (y + 1) = true) (hw : dd y % 7 = 3) (h0 : 19055 ≤ fp y) (h1 : fp y < 23269) : Kind y := by
  have e1 : y + 1 - 1 = y := by omega
  have n0 := ny_35 (y := y) (by omega)
  have s0 := dd_b (y := y) hl (by omega)
  have n1 := ny_1c (y := (y + 1)) (by omega) hn
  have q := b7_eq y
  exact Or.inl ⟨hl, Or.inr (Or.inr ⟨by omega, by omega⟩)⟩
theorem k_leaf28 {y : Int} (hp : leapB (y - 1) = false) (hl : leapB y = false) (hn : leapB (y + 1) = true) (hw : dd y % 7 = 3) (h0 : 23269 ≤ fp y) (h1 : fp y < 25920) : Kind y := by
  have e1 : y + 1 - 1 = y := by omega
  have n0 := ny_35 (y := y) (by omega)
  have s0 := dd_b (y := y) hl (by omega)
  have n1 := ny_1c (y := (y + 1)) (by omega) hn
  have q := b7_eq y
  exact Or.inl ⟨hl, Or.inr (Or.inr ⟨by omega, by omega⟩)⟩
theorem k_leaf29 {y : Int} (hp : leapB (y - 1) = false) (hl : leapB y = false) (hn : leapB (y + 1) = true) (hw : dd y % 7 = 4) (h0 : 0 ≤ fp y) (h1 : fp y < 2651) : Kind y := by
  have e1 : y + 1 - 1 = y := by omega
  have n0 := ny_246 (y := y) (by omega)
  have s0 := dd_a (y := y) hl (by omega)
  have n1 := ny_1c (y := (y + 1)) (by omega) hn
  have q := b7_eq y
  exact Or.inl ⟨hl, Or.inl ⟨by omega, by omega⟩⟩
theorem k_leaf30 {y : Int} (hp : leapB (y - 1) = false) (hl : leapB y = false) (hn : leapB (y + 1) = true) (hw : dd y % 7 = 4) (h0 : 2651 ≤ fp y) (h1 : fp y < 6888) : Kind y := by
  have e1 : y + 1 - 1 = y := by omega
  have n0 := ny_246 (y := y) (by omega)
  have s0 := dd_a (y := y) hl (by omega)
  have n1 := ny_1c (y := (y + 1)) (by omega) hn
  have q := b7_eq y
  exact Or.inl ⟨hl, Or.inl ⟨by omega, by omega⟩⟩
theorem k_leaf31 {y : Int} (hp : leapB (y - 1) = false) (hl : leapB y = false) (hn : leapB (y + 1) = true) (hw : dd y % 7 = 4) (h0 : 6888 ≤ fp y) (h1 : fp y < 13753) : Kind y := by
  have e1 : y + 1 - 1 = y := by omega
  have n0 := ny_246 (y := y) (by omega)
  have s0 := dd_a (y := y) hl (by omega)
  have n1 := ny_1c (y := (y + 1)) (by omega) hn
  have q := b7_eq y
  exact Or.inl ⟨hl, Or.inl ⟨by omega, by omega⟩⟩
theorem k_leaf32 {y : Int} (hp : leapB (y - 1) = false) (hl : leapB y = false) (hn : leapB (y + 1) = true) (hw : dd y % 7 = 4) (h0 : 13753 ≤ fp y) (h1 : fp y < 16404) : Kind y := by
  have e1 : y + 1 - 1 = y := by omega
  have n0 := ny_246 (y := y) (by omega)
  have s0 := dd_a (y := y) hl (by omega)
  have n1 := ny_1c (y := (y + 1)) (by omega) hn
  have q := b7_eq y
  exact Or.inl ⟨hl, Or.inl ⟨by omega, by omega⟩⟩
theorem k_leaf33 {y : Int} (hp : leapB (y - 1) = false) (hl : leapB y = false) (hn : leapB (y + 1) = true) (hw : dd y % 7 = 4) (h0 : 16404 ≤ fp y) (h1 : fp y < 19055) : Kind y := by
  have e1 : y + 1 - 1 = y := by omega
  have n0 := ny_246 (y := y) (by omega)
  have s0 := dd_b (y := y) hl (by omega)
  have n1 := ny_246 (y := (y + 1)) (by omega)
  have q := b7_eq y
  exact Or.inl ⟨hl, Or.inr (Or.inr ⟨by omega, by omega⟩)⟩
theorem k_leaf34 {y : Int} (hp : leapB (y - 1) = false) (hl : leapB y = false) (hn : leapB (y + 1) = true) (hw : dd y % 7 = 4) (h0 : 19055 ≤ fp y) (h1 : fp y < 23269) : Kind y := by
  have e1 : y + 1 - 1 = y := by omega
  have n0 := ny_246 (y := y) (by omega)
  have s0 := dd_b (y := y) hl (by omega)
  have n1 := ny_246 (y := (y + 1)) (by omega)
  have q := b7_eq y
  exact Or.inl ⟨hl, Or.inr (Or.inr ⟨by omega, by omega⟩)⟩
theorem k_leaf35 {y : Int} (hp : leapB (y - 1) = false) (hl : leapB y = false) (hn : leapB (y + 1) = true) (hw : dd y % 7 = 4) (h0 : 23269 ≤ fp y) (h1 : fp y < 25920) : Kind y := by
  have e1 : y + 1 - 1 = y := by omega
  have n0 := ny_246 (y := y) (by omega)
  have s0 := dd_b (y := y) hl (by omega)
  have n1 := ny_246 (y := (y + 1)) (by omega)
  have q := b7_eq y
  exact Or.inl ⟨hl, Or.inr (Or.inr ⟨by omega, by omega⟩)⟩
theorem k_leaf36 {y : Int} (hp : leapB (y - 1) = false) (hl : leapB y = false) (hn : leapB (y + 1) = true) (hw : dd y % 7 = 5) (h0 : 0 ≤ fp y) (h1 : fp y < 2651) : Kind y := by
  have e1 : y + 1 - 1 = y := by omega
  have n0 := ny_35 (y := y) (by omega)
  have s0 := dd_a (y := y) hl (by omega)
  have n1 := ny_246 (y := (y + 1)) (by omega)
  have q := b7_eq y
  exact Or.inl ⟨hl, Or.inr (Or.inr ⟨by omega, by omega⟩)⟩
theorem k_leaf37 {y : Int} (hp : leapB (y - 1) = false) (hl : leapB y = false) (hn : leapB (y + 1) = true) (hw : dd y % 7 = 5) (h0 : 2651 ≤ fp y) (h1 : fp y < 6888) : Kind y := by
  have e1 : y + 1 - 1 = y := by omega
  have n0 := ny_35 (y := y) (by omega)
  have s0 := dd_a (y := y) hl (by omega)
  have n1 := ny_246 (y := (y + 1)) (by omega)
  have q := b7_eq y
  exact Or.inl ⟨hl, Or.inr (Or.inr ⟨by omega, by omega⟩)⟩
theorem k_leaf38 {y : Int} (hp : leapB (y - 1) = false) (hl : leapB y = false) (hn : leapB (y + 1) = true) (hw : dd y % 7 = 5) (h0 : 6888 ≤ fp y) (h1 : fp y < 13753) : Kind y := by
  have e1 : y + 1 - 1 = y := by omega
  have n0 := ny_35 (y := y) (by omega)
  have s0 := dd_a (y := y) hl (by omega)
  have n1 := ny_246 (y := (y + 1)) (by omega)
  have q := b7_eq y
  exact Or.inl ⟨hl, Or.inr (Or.inr ⟨by omega, by omega⟩)⟩
theorem k_leaf39 {y : Int} (hp : leapB (y - 1) = false) (hl : leapB y = false) (hn : leapB (y + 1) = true) (hw : dd y % 7 = 5) (h0 : 13753 ≤ fp y) (h1 : fp y < 16404) : Kind y := by
  have e1 : y + 1 - 1 = y := by omega
  have n0 := ny_35 (y := y) (by omega)
  have s0 := dd_a (y := y) hl (by omega)
  have n1 := ny_246 (y := (y + 1)) (by omega)
  have q := b7_eq y
  exact Or.inl ⟨hl, Or.inr (Or.inr ⟨by omega, by omega⟩)⟩
theorem k_leaf40 {y : Int} (hp : leapB (y - 1) = false) (hl : leapB y = false) (hn : leapB (y + 1) = true) (hw : dd y % 7 = 5) (h0 : 16404 ≤ fp y) (h1 : fp y < 19055) : Kind y := by
  have e1 : y + 1 - 1 = y := by omega
  have n0 := ny_35 (y := y) (by omega)
  have s0 := dd_b (y := y) hl (by omega)
  have n1 := ny_35 (y := (y + 1)) (by omega)
  have q := b7_eq y
  exact Or.inl ⟨hl, Or.inr (Or.inr ⟨by omega, by omega⟩)⟩
theorem k_leaf41 {y : Int} (hp : leapB (y - 1) = false) (hl : leapB y = false) (hn : leapB (y + 1) = true) (hw : dd y % 7 = 5) (h0 : 19055 ≤ fp y) (h1 : fp y < 23269) : Kind y := by
  have e1 : y + 1 - 1 = y := by omega
  have n0 := ny_35 (y := y) (by omega)
  have s0 := dd_b (y := y) hl (by omega)
  have n1 := ny_35 (y := (y + 1)) (by omega)
  have q := b7_eq y
  exact Or.inl ⟨hl, Or.inr (Or.inr ⟨by omega, by omega⟩)⟩
theorem k_leaf42 {y : Int} (hp : leapB (y - 1) = false) (hl : leapB y = false) (hn : leapB (y + 1) = true) (hw : dd y % 7 = 5) (h0 : 23269 ≤ fp y) (h1 : fp y < 25920) : Kind y := by
  have e1 : y + 1 - 1 = y := by omega
  have n0 := ny_35 (y := y) (by omega)
  have s0 := dd_b (y := y) hl (by omega)
  have n1 := ny_35 (y := (y + 1)) (by omega)
  have q := b7_eq y
  exact Or.inl ⟨hl, Or.inr (Or.inr ⟨by omega, by omega⟩)⟩
theorem k_leaf43 {y : Int} (hp : leapB (y - 1) = false) (hl : leapB y = false) (hn : leapB (y + 1) = true) (hw : dd y % 7 = 6) (h0 : 0 ≤ fp y) (h1 : fp y < 2651) : Kind y := by
  have e1 : y + 1 - 1 = y := by omega
  have n0 := ny_246 (y := y) (by omega)
  have s0 := dd_a (y := y) hl (by omega)
  have n1 := ny_35 (y := (y + 1)) (by omega)
  have q := b7_eq y
  exact Or.inl ⟨hl, Or.inl ⟨by omega, by omega⟩⟩
theorem k_leaf44 {y : Int} (hp : leapB (y - 1) = false) (hl : leapB y = false) (hn : leapB (y + 1) = true) (hw : dd y % 7 = 6) (h0 : 2651 ≤ fp y) (h1 : fp y < 6888) : Kind y := by
  have e1 : y + 1 - 1 = y := by omega
  have n0 := ny_246 (y := y) (by omega)
  have s0 := dd_a (y := y) hl (by omega)
  have n1 := ny_35 (y := (y + 1)) (by omega)
  have q := b7_eq y
  exact Or.inl ⟨hl, Or.inl ⟨by omega, by omega⟩⟩
theorem k_leaf45 {y : Int} (hp : leapB (y - 1) = false) (hl : leapB y = false) (hn : leapB (y + 1) = true) (hw : dd y % 7 = 6) (h0 : 6888 ≤ fp y) (h1 : fp y < 13753) : Kind y := by
  have e1 : y + 1 - 1 = y := by omega
  have n0 := ny_246 (y := y) (by omega)
  have s0 := dd_a (y := y) hl (by omega)
  have n1 := ny_35 (y := (y + 1)) (by omega)
  have q := b7_eq y
  exact Or.inl ⟨hl, Or.inl ⟨by omega, by omega⟩⟩
theorem k_leaf46 {y : Int} (hp : leapB (y - 1) = false) (hl : leapB y = false) (hn : leapB (y + 1) = true) (hw : dd y % 7 = 6) (h0 : 13753 ≤ fp y) (h1 : fp y < 16404) : Kind y := by
  have e1 : y + 1 - 1 = y := by omega
  have n0 := ny_246 (y := y) (by omega)
  have s0 := dd_a (y := y) hl (by omega)
  have n1 := ny_35 (y := (y + 1)) (by omega)
  have q := b7_eq y
  exact Or.inl ⟨hl, Or.inl ⟨by omega, by omega⟩⟩
theorem k_leaf47 {y : Int} (hp : leapB (y - 1) = false) (hl : leapB y = false) (hn : leapB (y + 1) = true) (hw : dd y % 7 = 6) (h0 : 16404 ≤ fp y) (h1 : fp y < 19055) : Kind y := by
  have e1 : y + 1 - 1 = y := by omega
  have n0 := ny_246 (y := y) (by omega)
  have s0 := dd_b (y := y) hl (by omega)
  have n1 := ny_246 (y := (y + 1)) (by omega)
  have q := b7_eq y
  exact Or.inl ⟨hl, Or.inr (Or.inr ⟨by omega, by omega⟩)⟩
theorem k_leaf48 {y : Int} (hp : leapB (y - 1) = false) (hl : leapB y = false) (hn : leapB (y + 1) = true) (hw : dd y % 7 = 6) (h0 : 19055 ≤ fp y) (h1 : fp y < 23269) : Kind y := by
  have e1 : y + 1 - 1 = y := by omega
  have n0 := ny_246 (y := y) (by omega)
  have s0 := dd_b (y := y) hl (by omega)
  have n1 := ny_246 (y := (y + 1)) (by omega)
  have q := b7_eq y
  exact Or.inl ⟨hl, Or.inr (Or.inr ⟨by omega, by omega⟩)⟩
theorem k_leaf49 {y : Int} (hp : leapB (y - 1) = false) (hl : leapB y = false) (hn : leapB (y + 1) = true) (hw : dd y % 7 = 6) (h0 : 23269 ≤ fp y) (h1 : fp y < 25920) : Kind y := by
  have e1 : y + 1 - 1 = y := by omega
  have n0 := ny_246 (y := y) (by omega)
  have s0 := dd_b (y := y) hl (by omega)
  have n1 := ny_246 (y := (y + 1)) (by omega)
  have q := b7_eq y
  exact Or.inl ⟨hl, Or.inr (Or.inr ⟨by omega, by omega⟩)⟩
theorem k_fft {y : Int} (hp : leapB (y - 1) = false) (hl : leapB y = false) (hn : leapB (y + 1) = true) : Kind y := by
  have b0 := fp_bd y
  have hw : dd y % 7 = 0 ∨ dd y % 7 = 1 ∨ dd y % 7 = 2 ∨ dd y % 7 = 3 ∨ dd y % 7 = 4 ∨ dd y % 7 = 5 ∨ dd y % 7 = 6 := by omega
  have hi : (0 ≤ fp y ∧ fp y < 2651) ∨ (2651 ≤ fp y ∧ fp y < 6888) ∨ (6888 ≤ fp y ∧ fp y < 13753) ∨ (13753 ≤ fp y ∧ fp y < 16404) ∨ (16404 ≤ fp y ∧ fp y < 19055) ∨ (19055 ≤ fp y ∧ fp y < 23269) ∨ (23269 ≤ fp y ∧ fp y < 25920) := by omega
  rcases hw with hw | hw | hw | hw | hw | hw | hw <;> rcases hi with hi | hi | hi | hi | hi | hi | hi
  · exact k_leaf1 hp hl hn hw hi.1 hi.2
  · exact k_leaf2 hp hl hn hw hi.1 hi.2
  · exact k_leaf3 hp hl hn hw hi.1 hi.2
  · exact k_leaf4 hp hl hn hw hi.1 hi.2
  · exact k_leaf5 hp hl hn hw hi.1 hi.2
  · exact k_leaf6 hp hl hn hw hi.1 hi.2
  · exact k_leaf7 hp hl hn hw hi.1 hi.2
  · exact k_leaf8 hp hl hn hw hi.1 hi.2
  · exact k_leaf9 hp hl hn hw hi.1 hi.2
  · exact k_leaf10 hp hl hn hw hi.1 hi.2
  · exact k_leaf11 hp hl hn hw hi.1 hi.2
  · exact k_leaf12 hp hl hn hw hi.1 hi.2
  · exact k_leaf13 hp hl hn hw hi.1 hi.2
  · exact k_leaf14 hp hl hn hw hi.1 hi.2
  · exact k_leaf15 hp hl hn hw hi.1 hi.2
  · exact k_leaf16 hp hl hn hw hi.1 hi.2
  · exact k_leaf17 hp hl hn hw hi.1 hi.2
  · exact k_leaf18 hp hl hn hw hi.1 hi.2
  · exact k_leaf19 hp hl hn hw hi.1 hi.2
  · exact k_leaf20 hp hl hn hw hi.1 hi.2
  · exact k_leaf21 hp hl hn hw hi.1 hi.2
  · exact k_leaf22 hp hl hn hw hi.1 hi.2
  · exact k_leaf23 hp hl hn hw hi.1 hi.2
  · exact k_leaf24 hp hl hn hw hi.1 hi.2
  · exact k_leaf25 hp hl hn hw hi.1 hi.2
  · exact k_leaf26 hp hl hn hw hi.1 hi.2
  · exact k_leaf27 hp hl hn hw hi.1 hi.2
  · exact k_leaf28 hp hl hn hw hi.1 hi.2
  · exact k_leaf29 hp hl hn hw hi.1 hi.2
  · exact k_leaf30 hp hl hn hw hi.1 hi.2
  · exact k_leaf31 hp hl hn hw hi.1 hi.2
  · exact k_leaf32 hp hl hn hw hi.1 hi.2
  · exact k_leaf33 hp hl hn hw hi.1 hi.2
  · exact k_leaf34 hp hl hn hw hi.1 hi.2
  · exact k_leaf35 hp hl hn hw hi.1 hi.2
  · exact k_leaf36 hp hl hn hw hi.1 hi.2
  · exact k_leaf37 hp hl hn hw hi.1 hi.2
  · exact k_leaf38 hp hl hn hw hi.1 hi.2
  · exact k_leaf39 hp hl hn hw hi.1 hi.2
  · exact k_leaf40 hp hl hn hw hi.1 hi.2
  · exact k_leaf41 hp hl hn hw hi.1 hi.2
  · exact k_leaf42 hp hl hn hw hi.1 hi.2
  · exact k_leaf43 hp hl hn hw hi.1 hi.2
  · exact k_leaf44 hp hl hn hw hi.1 hi.2
  · exact k_leaf45 hp hl hn hw hi.1 hi.2
  · exact k_leaf46 hp hl hn hw hi.1 hi.2
  · exact k_leaf47 hp hl hn hw hi.1 hi.2
  · exact k_leaf48 hp hl hn hw hi.1 hi.2
  · exact k_leaf49 hp hl hn hw hi.1 hi.2
theorem k_leaf50 {y : Int} (hp : leapB (y - 1) = false) (hl : leapB y = true) (hn : leapB (y + 1) = false) (hw : dd y % 7 = 0) (h0 : 0 ≤ fp y) (h1 : fp y < 2651) : Kind y := by
  have e1 : y + 1 - 1 = y := by omega
  have n0 := ny_0c (y := y) (by omega) hp
  have s0 := dd_c (y := y) hl (by omega)
  have n1 := ny_35 (y := (y + 1)) (by omega)
  have q := b7_eq y
  exact Or.inr ⟨hl, Or.inl ⟨by omega, by omega⟩⟩
theorem k_leaf51 {y : Int} (hp : leapB (y - 1) = false) (hl : leapB y = true) (hn : leapB (y + 1) = false) (hw : dd y % 7 = 0) (h0 : 2651 ≤ fp y) (h1 : fp y < 5302) : Kind y := by
  have e1 : y + 1 - 1 = y := by omega
  have n0 := ny_0c (y := y) (by omega) hp
  have s0 := dd_d (y := y) hl (by omega)
  have n1 := ny_246 (y := (y + 1)) (by omega)
  have q := b7_eq y
  exact Or.inr ⟨hl, Or.inr (Or.inr ⟨by omega, by omega⟩)⟩
theorem k_leaf52 {y : Int} (hp : leapB (y - 1) = false) (hl : leapB y = true) (hn : leapB (y + 1) = false) (hw : dd y % 7 = 0) (h0 : 5302 ≤ fp y) (h1 : fp y < 16404) : Kind y := by
  have e1 : y + 1 - 1 = y := by omega
  have n0 := ny_0c (y := y) (by omega) hp
  have s0 := dd_d (y := y) hl (by omega)
  have n1 := ny_246 (y := (y + 1)) (by omega)
  have q := b7_eq y
  exact Or.inr ⟨hl, Or.inr (Or.inr ⟨by omega, by omega⟩)⟩
theorem k_leaf53 {y : Int} (hp : leapB (y - 1) = false) (hl : leapB y = true) (hn : leapB (y + 1) = false) (hw : dd y % 7 = 0) (h0 : 16404 ≤ fp y) (h1 : fp y < 19055) : Kind y := by
  have e1 : y + 1 - 1 = y := by omega
  have n0 := ny_0c (y := y) (by omega) hp
  have s0 := dd_d (y := y) hl (by omega)
  have n1 := ny_246 (y := (y + 1)) (by omega)
  have q := b7_eq y
  exact Or.inr ⟨hl, Or.inr (Or.inr ⟨by omega, by omega⟩)⟩
theorem k_leaf54 {y : Int} (hp : leapB (y - 1) = false) (hl : leapB y = true) (hn : leapB (y + 1) = false) (hw : dd y % 7 = 0) (h0 : 19055 ≤ fp y) (h1 : fp y < 23269) : Kind y := by
  have e1 : y + 1 - 1 = y := by omega
  have n0 := ny_0c (y := y) (by omega) hp
  have s0 := dd_d (y := y) hl (by omega)
  have n1 := ny_246 (y := (y + 1)) (by omega)
  have q := b7_eq y
  exact Or.inr ⟨hl, Or.inr (Or.inr ⟨by omega, by omega⟩)⟩
theorem k_leaf55 {y : Int} (hp : leapB (y - 1) = false) (hl : leapB y = true) (hn : leapB (y + 1) = false) (hw : dd y % 7 = 0) (h0 : 23269 ≤ fp y) (h1 : fp y < 25920) : Kind y := by
  have e1 : y + 1 - 1 = y := by omega
  have n0 := ny_0c (y := y) (by omega) hp
  have s0 := dd_d (y := y) hl (by omega)
  have n1 := ny_246 (y := (y + 1)) (by omega)
  have q := b7_eq y
  exact Or.inr ⟨hl, Or.inr (Or.inr ⟨by omega, by omega⟩)⟩
theorem k_leaf56 {y : Int} (hp : leapB (y - 1) = false) (hl : leapB y = true) (hn : leapB (y + 1) = false) (hw : dd y % 7 = 1) (h0 : 0 ≤ fp y) (h1 : fp y < 2651) : Kind y := by
  have e1 : y + 1 - 1 = y := by omega
  have n0 := ny_1c (y := y) (by omega) hl
  have s0 := dd_c (y := y) hl (by omega)
  have n1 := ny_246 (y := (y + 1)) (by omega)
  have q := b7_eq y
  exact Or.inr ⟨hl, Or.inr (Or.inl ⟨by omega, by omega⟩)⟩
theorem k_leaf57 {y : Int} (hp : leapB (y - 1) = false) (hl : leapB y = true) (hn : leapB (y + 1) = false) (hw : dd y % 7 = 1) (h0 : 2651 ≤ fp y) (h1 : fp y < 5302) : Kind y := by
  have e1 : y + 1 - 1 = y := by omega
  have n0 := ny_1c (y := y) (by omega) hl
  have s0 := dd_d (y := y) hl (by omega)
  have n1 := ny_0b (y := (y + 1)) (by omega) (by omega)
  have q := b7_eq y
  exact Or.inr ⟨hl, Or.inr (Or.inl ⟨by omega, by omega⟩)⟩
theorem k_leaf58 {y : Int} (hp : leapB (y - 1) = false) (hl : leapB y = true) (hn : leapB (y + 1) = false) (hw : dd y % 7 = 1) (h0 : 5302 ≤ fp y) (h1 : fp y < 16404) : Kind y := by
  have e1 : y + 1 - 1 = y := by omega
  have n0 := ny_1c (y := y) (by omega) hl
  have s0 := dd_d (y := y) hl (by omega)
  have n1 := ny_0b (y := (y + 1)) (by omega) (by omega)
  have q := b7_eq y
  exact Or.inr ⟨hl, Or.inr (Or.inl ⟨by omega, by omega⟩)⟩
theorem k_leaf59 {y : Int} (hp : leapB (y - 1) = false) (hl : leapB y = true) (hn : leapB (y + 1) = false) (hw : dd y % 7 = 1) (h0 : 16404 ≤ fp y) (h1 : fp y < 19055) : Kind y := by
  have e1 : y + 1 - 1 = y := by omega
  have n0 := ny_1c (y := y) (by omega) hl
  have s0 := dd_d (y := y) hl (by omega)
  have n1 := ny_0b (y := (y + 1)) (by omega) (by omega)
  have q := b7_eq y
  exact Or.inr ⟨hl, Or.inr (Or.inl ⟨by omega, by omega⟩)⟩
theorem k_leaf60 {y : Int} (hp : leapB (y - 1) = false) (hl : leapB y = true) (hn : leapB (y + 1) = false) (hw : dd y % 7 = 1) (h0 : 19055 ≤ fp y) (h1 : fp y < 23269) : Kind y := by
  have e1 : y + 1 - 1 = y := by omega
  have n0 := ny_1c (y := y) (by omega) hl
  have s0 := dd_d (y := y) hl (by omega)
  have n1 := ny_0b (y := (y + 1)) (by omega) (by omega)
  have q := b7_eq y
  exact Or.inr ⟨hl, Or.inr (Or.inl ⟨by omega, by omega⟩)⟩
theorem k_leaf61 {y : Int} (hp : leapB (y - 1) = false) (hl : leapB y = true) (hn : leapB (y + 1) = false) (hw : dd y % 7 = 1) (h0 : 23269 ≤ fp y) (h1 : fp y < 25920) : Kind y := by
  have e1 : y + 1 - 1 = y := by omega
  have n0 := ny_1c (y := y) (by omega) hl
  have s0 := dd_d (y := y) hl (by omega)
  have n1 := ny_0b (y := (y + 1)) (by omega) (by omega)
  have q := b7_eq y
  exact Or.inr ⟨hl, Or.inr (Or.inl ⟨by omega, by omega⟩)⟩
theorem k_leaf62 {y : Int} (hp : leapB (y - 1) = false) (hl : leapB y = true) (hn : leapB (y + 1) = false) (hw : dd y % 7 = 2) (h0 : 0 ≤ fp y) (h1 : fp y < 2651) : Kind y := by
  have e1 : y + 1 - 1 = y := by omega
  have n0 := ny_246 (y := y) (by omega)
  have s0 := dd_c (y := y) hl (by omega)
  have n1 := ny_0a (y := (y + 1)) (by omega) (by omega) (by rw [e1]; exact hl)
  have q := b7_eq y
  exact Or.inr ⟨hl, Or.inl ⟨by omega, by omega⟩⟩
theorem k_leaf63 {y : Int} (hp : leapB (y - 1) = false) (hl : leapB y = true) (hn : leapB (y + 1) = false) (hw : dd y % 7 = 2) (h0 : 2651 ≤ fp y) (h1 : fp y < 5302) : Kind y := by
  have e1 : y + 1 - 1 = y := by omega
  have n0 := ny_246 (y := y) (by omega)
  have s0 := dd_d (y := y) hl (by omega)
  have n1 := ny_1b (y := (y + 1)) (by omega) (by omega)
  have q := b7_eq y
  exact Or.inr ⟨hl, Or.inl ⟨by omega, by omega⟩⟩
theorem k_leaf64 {y : Int} (hp : leapB (y - 1) = false) (hl : leapB y = true) (hn : leapB (y + 1) = false) (hw : dd y % 7 = 2) (h0 : 5302 ≤ fp y) (h1 : fp y < 16404) : Kind y := by
  have e1 : y + 1 - 1 = y := by omega
  have n0 := ny_246 (y := y) (by omega)
  have s0 := dd_d (y := y) hl (by omega)
  have n1 := ny_1b (y := (y + 1)) (by omega) (by omega)
  have q := b7_eq y
  exact Or.inr ⟨hl, Or.inl ⟨by omega, by omega⟩⟩
theorem k_leaf65 {y : Int} (hp : leapB (y - 1) = false) (hl : leapB y = true) (hn : leapB (y + 1) = false) (hw : dd y % 7 = 2) (h0 : 16404 ≤ fp y) (h1 : fp y < 19055) : Kind y := by
  have e1 : y + 1 - 1 = y := by omega
  have n0 := ny_246 (y := y) (by omega)
  have s0 := dd_d (y := y) hl (by omega)
  have n1 := ny_1b (y := (y + 1)) (by omega) (by omega)
  have q := b7_eq y
  exact Or.inr ⟨hl, Or.inl ⟨by omega, by omega⟩⟩
theorem k_leaf66 {y : Int} (hp : leapB (y - 1) = false) (hl : leapB y = true) (hn : leapB (y + 1) = false) (hw : dd y % 7 = 2) (h0 : 19055 ≤ fp y) (h1 : fp y < 23269) : Kind y := by
  have e1 : y + 1 - 1 = y := by omega
  have n0 := ny_246 (y := y) (by omega)
  have s0 := dd_d (y := y) hl (by omega)
  have n1 := ny_1a (y := (y + 1)) (by omega) (by omega) hn
  have q := b7_eq y
  exact Or.inr ⟨hl, Or.inr (Or.inr ⟨by omega, by omega⟩)⟩
theorem k_leaf67 {y : Int} (hp : leapB (y - 1) = false) (hl : leapB y = true) (hn : leapB (y + 1) = false) (hw : dd y % 7 = 2) (h0 : 23269 ≤ fp y) (h1 : fp y < 25920) : Kind y := by
  have e1 : y + 1 - 1 = y := by omega
  have n0 := ny_246 (y := y) (by omega)
  have s0 := dd_d (y := y) hl (by omega)
  have n1 := ny_1a (y := (y + 1)) (by omega) (by omega) hn
  have q := b7_eq y
  exact Or.inr ⟨hl, Or.inr (Or.inr ⟨by omega, by omega⟩)⟩
theorem k_leaf68 {y : Int} (hp : leapB (y - 1) = false) (hl : leapB y = true) (hn : leapB (y + 1) = false) (hw : dd y % 7 = 3) (h0 : 0 ≤ fp y) (h1 : fp y < 2651) : Kind y := by
  have e1 : y + 1 - 1 = y := by omega
  have n0 := ny_35 (y := y) (by omega)
  have s0 := dd_c (y := y) hl (by omega)
  have n1 := ny_1a (y := (y + 1)) (by omega) (by omega) hn
  have q := b7_eq y
  exact Or.inr ⟨hl, Or.inr (Or.inr ⟨by omega, by omega⟩)⟩
theorem k_leaf69 {y : Int} (hp : leapB (y - 1) = false) (hl : leapB y = true) (hn : leapB (y + 1) = false) (hw : dd y % 7 = 3) (h0 : 2651 ≤ fp y) (h1 : fp y < 5302) : Kind y := by
  have e1 : y + 1 - 1 = y := by omega
  have n0 := ny_35 (y := y) (by omega)
  have s0 := dd_d (y := y) hl (by omega)
  have n1 := ny_246 (y := (y + 1)) (by omega)
  have q := b7_eq y
  exact Or.inr ⟨hl, Or.inr (Or.inr ⟨by omega, by omega⟩)⟩
theorem k_leaf70 {y : Int} (hp : leapB (y - 1) = false) (hl : leapB y = true) (hn : leapB (y + 1) = false) (hw : dd y % 7 = 3) (h0 : 5302 ≤ fp y) (h1 : fp y < 16404) : Kind y := by
  have e1 : y + 1 - 1 = y := by omega
  have n0 := ny_35 (y := y) (by omega)
  have s0 := dd_d (y := y) hl (by omega)
  have n1 := ny_246 (y := (y + 1)) (by omega)
  have q := b7_eq y
  exact Or.inr ⟨hl, Or.inr (Or.inr ⟨by omega, by omega⟩)⟩
theorem k_leaf71 {y : Int} (hp : leapB (y - 1) = false) (hl : leapB y = true) (hn : leapB (y + 1) = false) (hw : dd y % 7 = 3) (h0 : 16404 ≤ fp y) (h1 : fp y < 19055) : Kind y := by
  have e1 : y + 1 - 1 = y := by omega
  have n0 := ny_35 (y := y) (by omega)
  have s0 := dd_d (y := y) hl (by omega)
  have n1 := ny_246 (y := (y + 1)) (by omega)
  have q := b7_eq y
  exact Or.inr ⟨hl, Or.inr (Or.inr ⟨by omega, by omega⟩)⟩
theorem k_leaf72 {y : Int} (hp : leapB (y - 1) = false) (hl : leapB y = true) (hn : leapB (y + 1) = false) (hw : dd y % 7 = 3) (h0 : 19055 ≤ fp y) (h1 : fp y < 23269) : Kind y := by
  have e1 : y + 1 - 1 = y := by omega
  have n0 := ny_35 (y := y) (by omega)
  have s0 := dd_d (y := y) hl (by omega)
  have n1 := ny_246 (y := (y + 1)) (by omega)
  have q := b7_eq y
  exact Or.inr ⟨hl, Or.inr (Or.inr ⟨by omega, by omega⟩)⟩
theorem k_leaf73 {y : Int} (hp : leapB (y - 1) = false) (hl : leapB y = true) (hn : leapB (y + 1) = false) (hw : dd y % 7 = 3) (h0 : 23269 ≤ fp y) (h1 : fp y < 25920) : Kind y := by
  have e1 : y + 1 - 1 = y := by omega
  have n0 := ny_35 (y := y) (by omega)
  have s0 := dd_d (y := y) hl (by omega)
  have n1 := ny_246 (y := (y + 1)) (by omega)
  have q := b7_eq y
  exact Or.inr ⟨hl, Or.inr (Or.inr ⟨by omega, by omega⟩)⟩
theorem k_leaf74 {y : Int} (hp : leapB (y - 1) = false) (hl : leapB y = true) (hn : leapB (y + 1) = false) (hw : dd y % 7 = 4) (h0 : 0 ≤ fp y) (h1 : fp y < 2651) : Kind y := by
  have e1 : y + 1 - 1 = y := by omega
  have n0 := ny_246 (y := y) (by omega)
  have s0 := dd_c (y := y) hl (by omega)
  have n1 := ny_246 (y := (y + 1)) (by omega)
  have q := b7_eq y
  exact Or.inr ⟨hl, Or.inl ⟨by omega, by omega⟩⟩
theorem k_leaf75 {y : Int} (hp : leapB (y - 1) = false) (hl : leapB y = true) (hn : leapB (y + 1) = false) (hw : dd y % 7 = 4) (h0 : 2651 ≤ fp y) (h1 : fp y < 5302) : Kind y := by
  have e1 : y + 1 - 1 = y := by omega
  have n0 := ny_246 (y := y) (by omega)
  have s0 := dd_d (y := y) hl (by omega)
  have n1 := ny_35 (y := (y + 1)) (by omega)
  have q := b7_eq y
  exact Or.inr ⟨hl, Or.inl ⟨by omega, by omega⟩⟩
theorem k_leaf76 {y : Int} (hp : leapB (y - 1) = false) (hl : leapB y = true) (hn : leapB (y + 1) = false) (hw : dd y % 7 = 4) (h0 : 5302 ≤ fp y) (h1 : fp y < 16404) : Kind y := by
  have e1 : y + 1 - 1 = y := by omega
  have n0 := ny_246 (y := y) (by omega)
  have s0 := dd_d (y := y) hl (by omega)
  have n1 := ny_35 (y := (y + 1)) (by omega)
  have q := b7_eq y
  exact Or.inr ⟨hl, Or.inl ⟨by omega, by omega⟩⟩
theorem k_leaf77 {y : Int} (hp : leapB (y - 1) = false) (hl : leapB y = true) (hn : leapB (y + 1) = false) (hw : dd y % 7 = 4) (h0 : 16404 ≤ fp y) (h1 : fp y < 19055) : Kind y := by
  have e1 : y + 1 - 1 = y := by omega
  have n0 := ny_246 (y := y) (by omega)
  have s0 := dd_d (y := y) hl (by omega)
  have n1 := ny_35 (y := (y + 1)) (by omega)
  have q := b7_eq y
  exact Or.inr ⟨hl, Or.inl ⟨by omega, by omega⟩⟩
theorem k_leaf78 {y : Int} (hp : leapB (y - 1) = false) (hl : leapB y = true) (hn : leapB (y + 1) = false) (hw : dd y % 7 = 4) (h0 : 19055 ≤ fp y) (h1 : fp y < 23269) : Kind y := by
  have e1 : y + 1 - 1 = y := by omega
  have n0 := ny_246 (y := y) (by omega)
  have s0 := dd_d (y := y) hl (by omega)
  have n1 := ny_35 (y := (y + 1)) (by omega)
  have q := b7_eq y
  exact Or.inr ⟨hl, Or.inl ⟨by omega, by omega⟩⟩
theorem k_leaf79 {y : Int} (hp : leapB (y - 1) = false) (hl : leapB y = true) (hn : leapB (y + 1) = false) (hw : dd y % 7 = 4) (h0 : 23269 ≤ fp y) (h1 : fp y < 25920) : Kind y := by
  have e1 : y + 1 - 1 = y := by omega
  have n0 := ny_246 (y := y) (by omega)
  have s0 := dd_d (y := y) hl (by omega)
  have n1 := ny_35 (y := (y + 1)) (by omega)
  have q := b7_eq y
  exact Or.inr ⟨hl, Or.inl ⟨by omega, by omega⟩⟩
theorem k_leaf80 {y : Int} (hp : leapB (y - 1) = false) (hl : leapB y = true) (hn : leapB (y + 1) = false) (hw : dd y % 7 = 5) (h0 : 0 ≤ fp y) (h1 : fp y < 2651) : Kind y := by
  have e1 : y + 1 - 1 = y := by omega
  have n0 := ny_35 (y := y) (by omega)
  have s0 := dd_c (y := y) hl (by omega)
  have n1 := ny_35 (y := (y + 1)) (by omega)
  have q := b7_eq y
  exact Or.inr ⟨hl, Or.inl ⟨by omega, by omega⟩⟩
theorem k_leaf81 {y : Int} (hp : leapB (y - 1) = false) (hl : leapB y = true) (hn : leapB (y + 1) = false) (hw : dd y % 7 = 5) (h0 : 2651 ≤ fp y) (h1 : fp y < 5302) : Kind y := by
  have e1 : y + 1 - 1 = y := by omega
  have n0 := ny_35 (y := y) (by omega)
  have s0 := dd_d (y := y) hl (by omega)
  have n1 := ny_246 (y := (y + 1)) (by omega)
  have q := b7_eq y
  exact Or.inr ⟨hl, Or.inr (Or.inr ⟨by omega, by omega⟩)⟩
theorem k_leaf82 {y : Int} (hp : leapB (y - 1) = false) (hl : leapB y = true) (hn : leapB (y + 1) = false) (hw : dd y % 7 = 5) (h0 : 5302 ≤ fp y) (h1 : fp y < 16404) : Kind y := by
  have e1 : y + 1 - 1 = y := by omega
  have n0 := ny_35 (y := y) (by omega)
  have s0 := dd_d (y := y) hl (by omega)
  have n1 := ny_246 (y := (y + 1)) (by omega)
  have q := b7_eq y
  exact Or.inr ⟨hl, Or.inr (Or.inr ⟨by omega, by omega⟩)⟩
theorem k_leaf83 {y : Int} (hp : leapB (y - 1) = false) (hl : leapB y = true) (hn : leapB (y + 1) = false) (hw : dd y % 7 = 5) (h0 : 16404 ≤ fp y) (h1 : fp y < 19055) : Kind y := by
  have e1 : y + 1 - 1 = y := by omega
  have n0 := ny_35 (y := y) (by omega)
  have s0 := dd_d (y := y) hl (by omega)
  have n1 := ny_246 (y := (y + 1)) (by omega)
  have q := b7_eq y
  exact Or.inr ⟨hl, Or.inr (Or.inr ⟨by omega, by omega⟩)⟩
theorem k_leaf84 {y : Int} (hp : leapB (y - 1) = false) (hl : leapB y = true) (hn : leapB (y + 1) = false) (hw : dd y % 7 = 5) (h0 : 19055 ≤ fp y) (h1 : fp y < 23269) : Kind y := by
  have e1 : y + 1 - 1 = y := by omega
  have n0 := ny_35 (y := y) (by omega)
  have s0 := dd_d (y := y) hl (by omega)
  have n1 := ny_246 (y := (y + 1)) (by omega)
  have q := b7_eq y
  exact Or.inr ⟨hl, Or.inr (Or.inr ⟨by omega, by omega⟩)⟩
theorem k_leaf85 {y : Int} (hp : leapB (y - 1) = false) (hl : leapB y = true) (hn : leapB (y + 1) = false) (hw : dd y % 7 = 5) (h0 : 23269 ≤ fp y) (h1 : fp y < 25920) : Kind y := by
  have e1 : y + 1 - 1 = y := by omega
  have n0 := ny_35 (y := y) (by omega)
  have s0 := dd_d (y := y) hl (by omega)
  have n1 := ny_246 (y := (y + 1)) (by omega)
  have q := b7_eq y
  exact Or.inr ⟨hl, Or.inr (Or.inr ⟨by omega, by omega⟩)⟩
theorem k_leaf86 {y : Int} (hp : leapB (y - 1) = false) (hl : leapB y = true) (hn : leapB (y + 1) = false) (hw : dd y % 7 = 6) (h0 : 0 ≤ fp y) (h1 : fp y < 2651) : Kind y := by
  have e1 : y + 1 - 1 = y := by omega
  have n0 := ny_246 (y := y) (by omega)
  have s0 := dd_c (y := y) hl (by omega)
  have n1 := ny_246 (y := (y + 1)) (by omega)
  have q := b7_eq y
  exact Or.inr ⟨hl, Or.inl ⟨by omega, by omega⟩⟩
theorem k_leaf87 {y : Int} (hp : leapB (y - 1) = false) (hl : leapB y = true) (hn : leapB (y + 1) = false) (hw : dd y % 7 = 6) (h0 : 2651 ≤ fp y) (h1 : fp y < 5302) : Kind y := by
  have e1 : y + 1 - 1 = y := by omega
  have n0 := ny_246 (y := y) (by omega)
  have s0 := dd_d (y := y) hl (by omega)
  have n1 := ny_35 (y := (y + 1)) (by omega)
  have q := b7_eq y
  exact Or.inr ⟨hl, Or.inl ⟨by omega, by omega⟩⟩
theorem k_leaf88 {y : Int} (hp : leapB (y - 1) = false) (hl : leapB y = true) (hn : leapB (y + 1) = false) (hw : dd y % 7 = 6) (h0 : 5302 ≤ fp y) (h1 : fp y < 16404) : Kind y := by
  have e1 : y + 1 - 1 = y := by omega
  have n0 := ny_246 (y := y) (by omega)
  have s0 := dd_d (y := y) hl (by omega)
  have n1 := ny_35 (y := (y + 1)) (by omega)
  have q := b7_eq y
  exact Or.inr ⟨hl, Or.inl ⟨by omega, by omega⟩⟩
theorem k_leaf89 {y : Int} (hp : leapB (y - 1) = false) (hl : leapB y = true) (hn : leapB (y + 1) = false) (hw : dd y % 7 = 6) (h0 : 16404 ≤ fp y) (h1 : fp y < 19055) : Kind y := by
  have e1 : y + 1 - 1 = y := by omega
  have n0 := ny_246 (y := y) (by omega)
  have s0 := dd_d (y := y) hl (by omega)
  have n1 := ny_35 (y := (y + 1)) (by omega)
  have q := b7_eq y
  exact Or.inr ⟨hl, Or.inl ⟨by omega, by omega⟩⟩
theorem k_leaf90 {y : Int} (hp : leapB (y - 1) = false) (hl : leapB y = true) (hn : leapB (y + 1) = false) (hw : dd y % 7 = 6) (h0 : 19055 ≤ fp y) (h1 : fp y < 23269) : Kind y := by
  have e1 : y + 1 - 1 = y := by omega
  have n0 := ny_246 (y := y) (by omega)
  have s0 := dd_d (y := y) hl (by omega)
  have n1 := ny_35 (y := (y + 1)) (by omega)
  have q := b7_eq y
  exact Or.inr ⟨hl, Or.inl ⟨by omega, by omega⟩⟩
theorem k_leaf91 {y : Int} (hp : leapB (y - 1) = false) (hl : leapB y = true) (hn : leapB (y + 1) = false) (hw : dd y % 7 = 6) (h0 : 23269 ≤ fp y) (h1 : fp y < 25920) : Kind y := by
  have e1 : y + 1 - 1 = y := by omega
  have n0 := ny_246 (y := y) (by omega)
  have s0 := dd_d (y := y) hl (by omega)
  have n1 := ny_35 (y := (y + 1)) (by omega)
  have q := b7_eq y
  exact Or.inr ⟨hl, Or.inl ⟨by omega, by omega⟩⟩
theorem k_ftf {y : Int} (hp : leapB (y - 1) = false) (hl : leapB y = true) (hn : leapB (y + 1) = false) : Kind y := by
  have b0 := fp_bd y
  have hw : dd y % 7 = 0 ∨ dd y % 7 = 1 ∨ dd y % 7 = 2 ∨ dd y % 7 = 3 ∨ dd y % 7 = 4 ∨ dd y % 7 = 5 ∨ dd y % 7 = 6 := by omega
  have hi : (0 ≤ fp y ∧ fp y < 2651) ∨ (2651 ≤ fp y ∧ fp y < 5302) ∨ (5302 ≤ fp y ∧ fp y < 16404) ∨ (16404 ≤ fp y ∧ fp y < 19055) ∨ (19055 ≤ fp y ∧ fp y < 23269) ∨ (23269 ≤ fp y ∧ fp y < 25920) := by omega
  rcases hw with hw | hw | hw | hw | hw | hw | hw <;> rcases hi with hi | hi | hi | hi | hi | hi
  · exact k_leaf50 hp hl hn hw hi.1 hi.2
  · exact k_leaf51 hp hl hn hw hi.1 hi.2
  · exact k_leaf52 hp hl hn hw hi.1 hi.2
  · exact k_leaf53 hp hl hn hw hi.1 hi.2
  · exact k_leaf54 hp hl hn hw hi.1 hi.2
  · exact k_leaf55 hp hl hn hw hi.1 hi.2
  · exact k_leaf56 hp hl hn hw hi.1 hi.2
  · exact k_leaf57 hp hl hn hw hi.1 hi.2
  · exact k_leaf58 hp hl hn hw hi.1 hi.2
  · exact k_leaf59 hp hl hn hw hi.1 hi.2
  · exact k_leaf60 hp hl hn hw hi.1 hi.2
  · exact k_leaf61 hp hl hn hw hi.1 hi.2
  · exact k_leaf62 hp hl hn hw hi.1 hi.2
  · exact k_leaf63 hp hl hn hw hi.1 hi.2
  · exact k_leaf64 hp hl hn hw hi.1 hi.2
  · exact k_leaf65 hp hl hn hw hi.1 hi.2
  · exact k_leaf66 hp hl hn hw hi.1 hi.2
  · exact k_leaf67 hp hl hn hw hi.1 hi.2
  · exact k_leaf68 hp hl hn hw hi.1 hi.2
  · exact k_leaf69 hp hl hn hw hi.1 hi.2
  · exact k_leaf70 hp hl hn hw hi.1 hi.2
  · exact k_leaf71 hp hl hn hw hi.1 hi.2
  · exact k_leaf72 hp hl hn hw hi.1 hi.2
  · exact k_leaf73 hp hl hn hw hi.1 hi.2
  · exact k_leaf74 hp hl hn hw hi.1 hi.2
  · exact k_leaf75 hp hl hn hw hi.1 hi.2
  · exact k_leaf76 hp hl hn hw hi.1 hi.2
  · exact k_leaf77 hp hl hn hw hi.1 hi.2
  · exact k_leaf78 hp hl hn hw hi.1 hi.2
  · exact k_leaf79 hp hl hn hw hi.1 hi.2
  · exact k_leaf80 hp hl hn hw hi.1 hi.2
  · exact k_leaf81 hp hl hn hw hi.1 hi.2
  · exact k_leaf82 hp hl hn hw hi.1 hi.2
  · exact k_leaf83 hp hl hn hw hi.1 hi.2
  · exact k_leaf84 hp hl hn hw hi.1 hi.2
  · exact k_leaf85 hp hl hn hw hi.1 hi.2
  · exact k_leaf86 hp hl hn hw hi.1 hi.2
  · exact k_leaf87 hp hl hn hw hi.1 hi.2
  · exact k_leaf88 hp hl hn hw hi.1 hi.2
  · exact k_leaf89 hp hl hn hw hi.1 hi.2
  · exact k_leaf90 hp hl hn hw hi.1 hi.2
  · exact k_leaf91 hp hl hn hw hi.1 hi.2
theorem k_leaf92 {y : Int} (hp : leapB (y - 1) = true) (hl : leapB y = false) (hn : leapB (y + 1) = false) (hw : dd y % 7 = 0) (h0 : 0 ≤ fp y) (h1 : fp y < 2651) : Kind y := by
  have e1 : y + 1 - 1 = y := by omega
  have n0 := ny_0b (y := y) (by omega) (by omega)
  have s0 := dd_a (y := y) hl (by omega)
  have n1 := ny_246 (y := (y + 1)) (by omega)
  have q := b7_eq y
  exact Or.inl ⟨hl, Or.inr (Or.inr ⟨by omega, by omega⟩)⟩
theorem k_leaf93 {y : Int} (hp : leapB (y - 1) = true) (hl : leapB y = false) (hn : leapB (y + 1) = false) (hw : dd y % 7 = 0) (h0 : 2651 ≤ fp y) (h1 : fp y < 6888) : Kind y := by
  have e1 : y + 1 - 1 = y := by omega
  have n0 := ny_0b (y := y) (by omega) (by omega)
  have s0 := dd_a (y := y) hl (by omega)
  have n1 := ny_246 (y := (y + 1)) (by omega)
  have q := b7_eq y
  exact Or.inl ⟨hl, Or.inr (Or.inr ⟨by omega, by omega⟩)⟩
theorem k_leaf94 {y : Int} (hp : leapB (y - 1) = true) (hl : leapB y = false) (hn : leapB (y + 1) = false) (hw : dd y % 7 = 0) (h0 : 6888 ≤ fp y) (h1 : fp y < 13753) : Kind y := by
  have e1 : y + 1 - 1 = y := by omega
  have n0 := ny_0b (y := y) (by omega) (by omega)
  have s0 := dd_a (y := y) hl (by omega)
  have n1 := ny_246 (y := (y + 1)) (by omega)
  have q := b7_eq y
  exact Or.inl ⟨hl, Or.inr (Or.inr ⟨by omega, by omega⟩)⟩
theorem k_leaf95 {y : Int} (hp : leapB (y - 1) = true) (hl : leapB y = false) (hn : leapB (y + 1) = false) (hw : dd y % 7 = 0) (h0 : 13753 ≤ fp y) (h1 : fp y < 16404) : Kind y := by
  have e1 : y + 1 - 1 = y := by omega
  have n0 := ny_0b (y := y) (by omega) (by omega)
  have s0 := dd_a (y := y) hl (by omega)
  have n1 := ny_246 (y := (y + 1)) (by omega)
  have q := b7_eq y
  exact Or.inl ⟨hl, Or.inr (Or.inr ⟨by omega, by omega⟩)⟩
theorem k_leaf96 {y : Int} (hp : leapB (y - 1) = true) (hl : leapB y = false) (hn : leapB (y + 1) = false) (hw : dd y % 7 = 0) (h0 : 16404 ≤ fp y) (h1 : fp y < 19055) : Kind y := by
  have e1 : y + 1 - 1 = y := by omega
  have n0 := ny_0b (y := y) (by omega) (by omega)
  have s0 := dd_b (y := y) hl (by omega)
  have n1 := ny_35 (y := (y + 1)) (by omega)
  have q := b7_eq y
  exact Or.inl ⟨hl, Or.inr (Or.inr ⟨by omega, by omega⟩)⟩
theorem k_leaf97 {y : Int} (hp : leapB (y - 1) = true) (hl : leapB y = false) (hn : leapB (y + 1) = false) (hw : dd y % 7 = 0) (h0 : 19055 ≤ fp y) (h1 : fp y < 23269) : Kind y := by
  have e1 : y + 1 - 1 = y := by omega
  have n0 := ny_0b (y := y) (by omega) (by omega)
  have s0 := dd_b (y := y) hl (by omega)
  have n1 := ny_35 (y := (y + 1)) (by omega)
  have q := b7_eq y
  exact Or.inl ⟨hl, Or.inr (Or.inr ⟨by omega, by omega⟩)⟩
theorem k_leaf98 {y : Int} (hp : leapB (y - 1) = true) (hl : leapB y = false) (hn : leapB (y + 1) = false) (hw : dd y % 7 = 0) (h0 : 23269 ≤ fp y) (h1 : fp y < 25920) : Kind y := by
  have e1 : y + 1 - 1 = y := by omega
  have n0 := ny_0a (y := y) (by omega) (by omega) hp
  have s0 := dd_b (y := y) hl (by omega)
  have n1 := ny_35 (y := (y + 1)) (by omega)
  have q := b7_eq y
  exact Or.inl ⟨hl, Or.inr (Or.inl ⟨by omega, by omega⟩)⟩
theorem k_leaf99 {y : Int} (hp : leapB (y - 1) = true) (hl : leapB y = false) (hn : leapB (y + 1) = false) (hw : dd y % 7 = 1) (h0 : 0 ≤ fp y) (h1 : fp y < 2651) : Kind y := by
  have e1 : y + 1 - 1 = y := by omega
  have n0 := ny_1b (y := y) (by omega) (by omega)
  have s0 := dd_a (y := y) hl (by omega)
  have n1 := ny_35 (y := (y + 1)) (by omega)
  have q := b7_eq y
  exact Or.inl ⟨hl, Or.inr (Or.inl ⟨by omega, by omega⟩)⟩
theorem k_leaf100 {y : Int} (hp : leapB (y - 1) = true) (hl : leapB y = false) (hn : leapB (y + 1) = false) (hw : dd y % 7 = 1) (h0 : 2651 ≤ fp y) (h1 : fp y < 6888) : Kind y := by
  have e1 : y + 1 - 1 = y := by omega
  have n0 := ny_1b (y := y) (by omega) (by omega)
  have s0 := dd_a (y := y) hl (by omega)
  have n1 := ny_35 (y := (y + 1)) (by omega)
  have q := b7_eq y
  exact Or.inl ⟨hl, Or.inr (Or.inl ⟨by omega, by omega⟩)⟩
theorem k_leaf101 {y : Int} (hp : leapB (y - 1) = true) (hl : leapB y = false) (hn : leapB (y + 1) = false) (hw : dd y % 7 = 1) (h0 : 6888 ≤ fp y) (h1 : fp y < 13753) : Kind y := by
  have e1 : y + 1 - 1 = y := by omega
  have n0 := ny_1b (y := y) (by omega) (by omega)
  have s0 := dd_a (y := y) hl (by omega)
  have n1 := ny_35 (y := (y + 1)) (by omega)
  have q := b7_eq y
  exact Or.inl ⟨hl, Or.inr (Or.inl ⟨by omega, by omega⟩)⟩
theorem k_leaf102 {y : Int} (hp : leapB (y - 1) = true) (hl : leapB y = false) (hn : leapB (y + 1) = false) (hw : dd y % 7 = 1) (h0 : 13753 ≤ fp y) (h1 : fp y < 16404) : Kind y := by
  have e1 : y + 1 - 1 = y := by omega
  have n0 := ny_1b (y := y) (by omega) (by omega)
  have s0 := dd_a (y := y) hl (by omega)
  have n1 := ny_35 (y := (y + 1)) (by omega)
  have q := b7_eq y
  exact Or.inl ⟨hl, Or.inr (Or.inl ⟨by omega, by omega⟩)⟩
theorem k_leaf103 {y : Int} (hp : leapB (y - 1) = true) (hl : leapB y = false) (hn : leapB (y + 1) = false) (hw : dd y % 7 = 1) (h0 : 16404 ≤ fp y) (h1 : fp y < 19055) : Kind y := by
  have e1 : y + 1 - 1 = y := by omega
  have n0 := ny_1a (y := y) (by omega) (by omega) hl
  have s0 := dd_b (y := y) hl (by omega)
  have n1 := ny_246 (y := (y + 1)) (by omega)
  have q := b7_eq y
  exact Or.inl ⟨hl, Or.inr (Or.inl ⟨by omega, by omega⟩)⟩
theorem k_leaf104 {y : Int} (hp : leapB (y - 1) = true) (hl : leapB y = false) (hn : leapB (y + 1) = false) (hw : dd y % 7 = 1) (h0 : 19055 ≤ fp y) (h1 : fp y < 23269) : Kind y := by
  have e1 : y + 1 - 1 = y := by omega
  have n0 := ny_1a (y := y) (by omega) (by omega) hl
  have s0 := dd_b (y := y) hl (by omega)
  have n1 := ny_246 (y := (y + 1)) (by omega)
  have q := b7_eq y
  exact Or.inl ⟨hl, Or.inr (Or.inl ⟨by omega, by omega⟩)⟩
theorem k_leaf105 {y : Int} (hp : leapB (y - 1) = true) (hl : leapB y = false) (hn : leapB (y + 1) = false) (hw : dd y % 7 = 1) (h0 : 23269 ≤ fp y) (h1 : fp y < 25920) : Kind y := by
  have e1 : y + 1 - 1 = y := by omega
  have n0 := ny_1a (y := y) (by omega) (by omega) hl
  have s0 := dd_b (y := y) hl (by omega)
  have n1 := ny_246 (y := (y + 1)) (by omega)
  have q := b7_eq y
  exact Or.inl ⟨hl, Or.inr (Or.inl ⟨by omega, by omega⟩)⟩
theorem k_leaf106 {y : Int} (hp : leapB (y - 1) = true) (hl : leapB y = false) (hn : leapB (y + 1) = false) (hw : dd y % 7 = 2) (h0 : 0 ≤ fp y) (h1 : fp y < 2651) : Kind y := by
  have e1 : y + 1 - 1 = y := by omega
  have n0 := ny_246 (y := y) (by omega)
  have s0 := dd_a (y := y) hl (by omega)
  have n1 := ny_246 (y := (y + 1)) (by omega)
  have q := b7_eq y
  exact Or.inl ⟨hl, Or.inr (Or.inl ⟨by omega, by omega⟩)⟩
theorem k_leaf107 {y : Int} (hp : leapB (y - 1) = true) (hl : leapB y = false) (hn : leapB (y + 1) = false) (hw : dd y % 7 = 2) (h0 : 2651 ≤ fp y) (h1 : fp y < 6888) : Kind y := by
  have e1 : y + 1 - 1 = y := by omega
  have n0 := ny_246 (y := y) (by omega)
  have s0 := dd_a (y := y) hl (by omega)
  have n1 := ny_246 (y := (y + 1)) (by omega)
  have q := b7_eq y
  exact Or.inl ⟨hl, Or.inr (Or.inl ⟨by omega, by omega⟩)⟩
theorem k_leaf108 {y : Int} (hp : leapB (y - 1) = true) (hl : leapB y = false) (hn : leapB (y + 1) = false) (hw : dd y % 7 = 2) (h0 : 6888 ≤ fp y) (h1 : fp y < 13753) : Kind y := by
  have e1 : y + 1 - 1 = y := by omega
  have n0 := ny_246 (y := y) (by omega)
  have s0 := dd_a (y := y) hl (by omega)
  have n1 := ny_246 (y := (y + 1)) (by omega)
  have q := b7_eq y
  exact Or.inl ⟨hl, Or.inr (Or.inl ⟨by omega, by omega⟩)⟩
theorem k_leaf109 {y : Int} (hp : leapB (y - 1) = true) (hl : leapB y = false) (hn : leapB (y + 1) = false) (hw : dd y % 7 = 2) (h0 : 13753 ≤ fp y) (h1 : fp y < 16404) : Kind y := by
  have e1 : y + 1 - 1 = y := by omega
  have n0 := ny_246 (y := y) (by omega)
  have s0 := dd_a (y := y) hl (by omega)
  have n1 := ny_246 (y := (y + 1)) (by omega)
  have q := b7_eq y
  exact Or.inl ⟨hl, Or.inr (Or.inl ⟨by omega, by omega⟩)⟩
theorem k_leaf110 {y : Int} (hp : leapB (y - 1) = true) (hl : leapB y = false) (hn : leapB (y + 1) = false) (hw : dd y % 7 = 2) (h0 : 16404 ≤ fp y) (h1 : fp y < 19055) : Kind y := by
  have e1 : y + 1 - 1 = y := by omega
  have n0 := ny_246 (y := y) (by omega)
  have s0 := dd_b (y := y) hl (by omega)
  have n1 := ny_0c (y := (y + 1)) (by omega) (by rw [e1]; exact hl)
  have q := b7_eq y
  exact Or.inl ⟨hl, Or.inr (Or.inl ⟨by omega, by omega⟩)⟩
theorem k_leaf111 {y : Int} (hp : leapB (y - 1) = true) (hl : leapB y = false) (hn : leapB (y + 1) = false) (hw : dd y % 7 = 2) (h0 : 19055 ≤ fp y) (h1 : fp y < 23269) : Kind y := by
  have e1 : y + 1 - 1 = y := by omega
  have n0 := ny_246 (y := y) (by omega)
  have s0 := dd_b (y := y) hl (by omega)
  have n1 := ny_0c (y := (y + 1)) (by omega) (by rw [e1]; exact hl)
  have q := b7_eq y
  exact Or.inl ⟨hl, Or.inr (Or.inl ⟨by omega, by omega⟩)⟩
theorem k_leaf112 {y : Int} (hp : leapB (y - 1) = true) (hl : leapB y = false) (hn : leapB (y + 1) = false) (hw : dd y % 7 = 2) (h0 : 23269 ≤ fp y) (h1 : fp y < 25920) : Kind y := by
  have e1 : y + 1 - 1 = y := by omega
  have n0 := ny_246 (y := y) (by omega)
  have s0 := dd_b (y := y) hl (by omega)
  have n1 := ny_0c (y := (y + 1)) (by omega) (by rw [e1]; exact hl)
  have q := b7_eq y
  exact Or.inl ⟨hl, Or.inr (Or.inl ⟨by omega, by omega⟩)⟩
theorem k_leaf113 {y : Int} (hp : leapB (y - 1) = true) (hl : leapB y = false) (hn : leapB (y + 1) = false) (hw : dd y % 7 = 3) (h0 : 0 ≤ fp y) (h1 : fp y < 2651) : Kind y := by
  have e1 : y + 1 - 1 = y := by omega
  have n0 := ny_35 (y := y) (by omega)
  have s0 := dd_a (y := y) hl (by omega)
  have n1 := ny_0c (y := (y + 1)) (by omega) (by rw [e1]; exact hl)
  have q := b7_eq y
  exact Or.inl ⟨hl, Or.inr (Or.inl ⟨by omega, by omega⟩)⟩
theorem k_leaf114 {y : Int} (hp : leapB (y - 1) = true) (hl : leapB y = false) (hn : leapB (y + 1) = false) (hw : dd y % 7 = 3) (h0 : 2651 ≤ fp y) (h1 : fp y < 6888) : Kind y := by
  have e1 : y + 1 - 1 = y := by omega
  have n0 := ny_35 (y := y) (by omega)
  have s0 := dd_a (y := y) hl (by omega)
  have n1 := ny_0c (y := (y + 1)) (by omega) (by rw [e1]; exact hl)
  have q := b7_eq y
  exact Or.inl ⟨hl, Or.inr (Or.inl ⟨by omega, by omega⟩)⟩
theorem k_leaf115 {y : Int} (hp : leapB (y - 1) = true) (hl : leapB y = false) (hn : leapB (y + 1) = false) (hw : dd y % 7 = 3) (h0 : 6888 ≤ fp y) (h1 : fp y < 13753) : Kind y := by
  have e1 : y + 1 - 1 = y := by omega
  have n0 := ny_35 (y := y) (by omega)
  have s0 := dd_a (y := y) hl (by omega)
  have n1 := ny_0c (y := (y + 1)) (by omega) (by rw [e1]; exact hl)
  have q := b7_eq y
  exact Or.inl ⟨hl, Or.inr (Or.inl ⟨by omega, by omega⟩)⟩
theorem k_leaf116 {y : Int} (hp : leapB (y - 1) = true) (hl : leapB y = false) (hn : leapB (y + 1) = false) (hw : dd y % 7 = 3) (h0 : 13753 ≤ fp y) (h1 : fp y < 16404) : Kind y := by
  have e1 : y + 1 - 1 = y := by omega
  have n0 := ny_35 (y := y) (by omega)
  have s0 := dd_a (y := y) hl (by omega)
  have n1 := ny_0c (y := (y + 1)) (by omega) (by rw [e1]; exact hl)
  have q := b7_eq y
  exact Or.inl ⟨hl, Or.inr (Or.inl ⟨by omega, by omega⟩)⟩
theorem k_leaf117 {y : Int} (hp : leapB (y - 1) = true) (hl : leapB y = false) (hn : leapB (y + 1) = false) (hw : dd y % 7 = 3) (h0 : 16404 ≤ fp y) (h1 : fp y < 19055) : Kind y := by
  have e1 : y + 1 - 1 = y := by omega
  have n0 := ny_35 (y := y) (by omega)
  have s0 := dd_b (y := y) hl (by omega)
  have n1 := ny_1b (y := (y + 1)) (by omega) (by omega)
  have q := b7_eq y
  exact Or.inl ⟨hl, Or.inr (Or.inr ⟨by omega, by omega⟩)⟩
theorem k_leaf118 {y : Int} (hp : leapB (y - 1) = true) (hl : leapB y = false) (hn : leapB (y + 1) = false) (hw : dd y % 7 = 3) (h0 : 19055 ≤ fp y) (h1 : fp y < 23269) : Kind y := by
  have e1 : y + 1 - 1 = y := by omega
  have n0 := ny_35 (y := y) (by omega)
  have s0 := dd_b (y := y) hl (by omega)
  have n1 := ny_1b (y := (y + 1)) (by omega) (by omega)
  have q := b7_eq y
  exact Or.inl ⟨hl, Or.inr (Or.inr ⟨by omega, by omega⟩)⟩
theorem k_leaf119 {y : Int} (hp : leapB (y - 1) = true) (hl : leapB y = false) (hn : leapB (y + 1) = false) (hw : dd y % 7 = 3) (h0 : 23269 ≤ fp y) (h1 : fp y < 25920) : Kind y := by
  have e1 : y + 1 - 1 = y := by omega
  have n0 := ny_35 (y := y) (by omega)
  have s0 := dd_b (y := y) hl (by omega)
  have n1 := ny_1b (y := (y + 1)) (by omega) (by omega)
  have q := b7_eq y
  exact Or.inl ⟨hl, Or.inr (Or.inr ⟨by omega, by omega⟩)⟩
theorem k_leaf120 {y : Int} (hp : leapB (y - 1) = true) (hl : leapB y = false) (hn : leapB (y + 1) = false) (hw : dd y % 7 = 4) (h0 : 0 ≤ fp y) (h1 : fp y < 2651) : Kind y := by
  have e1 : y + 1 - 1 = y := by omega
  have n0 := ny_246 (y := y) (by omega)
  have s0 := dd_a (y := y) hl (by omega)
  have n1 := ny_1b (y := (y + 1)) (by omega) (by omega)
  have q := b7_eq y
  exact Or.inl ⟨hl, Or.inl ⟨by omega, by omega⟩⟩
theorem k_leaf121 {y : Int} (hp : leapB (y - 1) = true) (hl : leapB y = false) (hn : leapB (y + 1) = false) (hw : dd y % 7 = 4) (h0 : 2651 ≤ fp y) (h1 : fp y < 6888) : Kind y := by
  have e1 : y + 1 - 1 = y := by omega
  have n0 := ny_246 (y := y) (by omega)
  have s0 := dd_a (y := y) hl (by omega)
  have n1 := ny_1b (y := (y + 1)) (by omega) (by omega)
  have q := b7_eq y
  exact Or.inl ⟨hl, Or.inl ⟨by omega, by omega⟩⟩
theorem k_leaf122 {y : Int} (hp : leapB (y - 1) = true) (hl : leapB y = false) (hn : leapB (y + 1) = false) (hw : dd y % 7 = 4) (h0 : 6888 ≤ fp y) (h1 : fp y < 13753) : Kind y := by
  have e1 : y + 1 - 1 = y := by omega
  have n0 := ny_246 (y := y) (by omega)
  have s0 := dd_a (y := y) hl (by omega)
  have n1 := ny_1a (y := (y + 1)) (by omega) (by omega) hn
  have q := b7_eq y
  exact Or.inl ⟨hl, Or.inr (Or.inr ⟨by omega, by omega⟩)⟩
theorem k_leaf123 {y : Int} (hp : leapB (y - 1) = true) (hl : leapB y = false) (hn : leapB (y + 1) = false) (hw : dd y % 7 = 4) (h0 : 13753 ≤ fp y) (h1 : fp y < 16404) : Kind y := by
  have e1 : y + 1 - 1 = y := by omega
  have n0 := ny_246 (y := y) (by omega)
  have s0 := dd_a (y := y) hl (by omega)
  have n1 := ny_1a (y := (y + 1)) (by omega) (by omega) hn
  have q := b7_eq y
  exact Or.inl ⟨hl, Or.inr (Or.inr ⟨by omega, by omega⟩)⟩
theorem k_leaf124 {y : Int} (hp : leapB (y - 1) = true) (hl : leapB y = false) (hn : leapB (y + 1) = false) (hw : dd y % 7 = 4) (h0 : 16404 ≤ fp y) (h1 : fp y < 19055) : Kind y := by
  have e1 : y + 1 - 1 = y := by omega
  have n0 := ny_246 (y := y) (by omega)
  have s0 := dd_b (y := y) hl (by omega)
  have n1 := ny_246 (y := (y + 1)) (by omega)
  have q := b7_eq y
  exact Or.inl ⟨hl, Or.inr (Or.inr ⟨by omega, by omega⟩)⟩
theorem k_leaf125 {y : Int} (hp : leapB (y - 1) = true) (hl : leapB y = false) (hn : leapB (y + 1) = false) (hw : dd y % 7 = 4) (h0 : 19055 ≤ fp y) (h1 : fp y < 23269) : Kind y := by
  have e1 : y + 1 - 1 = y := by omega
  have n0 := ny_246 (y := y) (by omega)
  have s0 := dd_b (y := y) hl (by omega)
  have n1 := ny_246 (y := (y + 1)) (by omega)
  have q := b7_eq y
  exact Or.inl ⟨hl, Or.inr (Or.inr ⟨by omega, by omega⟩)⟩
theorem k_leaf126 {y : Int} (hp : leapB (y - 1) = true) (hl : leapB y = false) (hn : leapB (y + 1) = false) (hw : dd y % 7 = 4) (h0 : 23269 ≤ fp y) (h1 : fp y < 25920) : Kind y := by
  have e1 : y + 1 - 1 = y := by omega
  have n0 := ny_246 (y := y) (by omega)
  have s0 := dd_b (y := y) hl (by omega)
  have n1 := ny_246 (y := (y + 1)) (by omega)
  have q := b7_eq y
  exact Or.inl ⟨hl, Or.inr (Or.inr ⟨by omega, by omega⟩)⟩
theorem k_leaf127 {y : Int} (hp : leapB (y - 1) = true) (hl : leapB y = false) (hn : leapB (y + 1) = false) (hw : dd y % 7 = 5) (h0 : 0 ≤ fp y) (h1 : fp y < 2651) : Kind y := by
  have e1 : y + 1 - 1 = y := by omega
  have n0 := ny_35 (y := y) (by omega)
  have s0 := dd_a (y := y) hl (by omega)
  have n1 := ny_246 (y := (y + 1)) (by omega)
  have q := b7_eq y
  exact Or.inl ⟨hl, Or.inr (Or.inr ⟨by omega, by omega⟩)⟩
theorem k_leaf128 {y : Int} (hp : leapB (y - 1) = true) (hl : leapB y = false) (hn : leapB (y + 1) = false) (hw : dd y % 7 = 5) (h0 : 2651 ≤ fp y) (h1 : fp y < 6888) : Kind y := by
  have e1 : y + 1 - 1 = y := by omega
  have n0 := ny_35 (y := y) (by omega)
  have s0 := dd_a (y := y) hl (by omega)
  have n1 := ny_246 (y := (y + 1)) (by omega)
  have q := b7_eq y
  exact Or.inl ⟨hl, Or.inr (Or.inr ⟨by omega, by omega⟩)⟩
theorem k_leaf129 {y : Int} (hp : leapB (y - 1) = true) (hl : leapB y = false) (hn : leapB (y + 1) = false) (hw : dd y % 7 = 5) (h0 : 6888 ≤ fp y) (h1 : fp y < 13753) : Kind y := by
  have e1 : y + 1 - 1 = y := by omega
  have n0 := ny_35 (y := y) (by omega)
  have s0 := dd_a (y := y) hl (by omega)
  have n1 := ny_246 (y := (y + 1)) (by omega)
  have q := b7_eq y
  exact Or.inl ⟨hl, Or.inr (Or.inr ⟨by omega, by omega⟩)⟩
theorem k_leaf130 {y : Int} (hp : leapB (y - 1) = true) (hl : leapB y = false) (hn : leapB (y + 1) = false) (hw : dd y % 7 = 5) (h0 : 13753 ≤ fp y) (h1 : fp y < 16404) : Kind y := by
  have e1 : y + 1 - 1 = y := by omega
  have n0 := ny_35 (y := y) (by omega)
  have s0 := dd_a (y := y) hl (by omega)
  have n1 := ny_246 (y := (y + 1)) (by omega)
  have q := b7_eq y
  exact Or.inl ⟨hl, Or.inr (Or.inr ⟨by omega, by omega⟩)⟩
theorem k_leaf131 {y : Int} (hp : leapB (y - 1) = true) (hl : leapB y = false) (hn : leapB (y + 1) = false) (hw : dd y % 7 = 5) (h0 : 16404 ≤ fp y) (h1 : fp y < 19055) : Kind y := by
  have e1 : y + 1 - 1 = y := by omega
  have n0 := ny_35 (y := y) (by omega)
  have s0 := dd_b (y := y) hl (by omega)
  have n1 := ny_35 (y := (y + 1)) (by omega)
  have q := b7_eq y
  exact Or.inl ⟨hl, Or.inr (Or.inr ⟨by omega, by omega⟩)⟩
theorem k_leaf132 {y : Int} (hp : leapB (y - 1) = true) (hl : leapB y = false) (hn : leapB (y + 1) = false) (hw : dd y % 7 = 5) (h0 : 19055 ≤ fp y) (h1 : fp y < 23269) : Kind y := by
  have e1 : y + 1 - 1 = y := by omega
  have n0 := ny_35 (y := y) (by omega)
  have s0 := dd_b (y := y) hl (by omega)
  have n1 := ny_35 (y := (y + 1)) (by omega)
  have q := b7_eq y
  exact Or.inl ⟨hl, Or.inr (Or.inr ⟨by omega, by omega⟩)⟩
theorem k_leaf133 {y : Int} (hp : leapB (y - 1) = true) (hl : leapB y = false) (hn : leapB (y + 1) = false) (hw : dd y % 7 = 5) (h0 : 23269 ≤ fp y) (h1 : fp y < 25920) : Kind y := by
  have e1 : y + 1 - 1 = y := by omega
  have n0 := ny_35 (y := y) (by omega)
  have s0 := dd_b (y := y) hl (by omega)
  have n1 := ny_35 (y := (y + 1)) (by omega)
  have q := b7_eq y
  exact Or.inl ⟨hl, Or.inr (Or.inr ⟨by omega, by omega⟩)⟩
theorem k_leaf134 {y : Int} (hp : leapB (y - 1) = true) (hl : leapB y = false) (hn : leapB (y + 1) = false) (hw : dd y % 7 = 6) (h0 : 0 ≤ fp y) (h1 : fp y < 2651) : Kind y := by
  have e1 : y + 1 - 1 = y := by omega
  have n0 := ny_246 (y := y) (by omega)
  have s0 := dd_a (y := y) hl (by omega)
  have n1 := ny_35 (y := (y + 1)) (by omega)
  have q := b7_eq y
  exact Or.inl ⟨hl, Or.inl ⟨by omega, by omega⟩⟩
theorem k_leaf135 {y : Int} (hp : leapB (y - 1) = true) (hl : leapB y = false) (hn : leapB (y + 1) = false) (hw : dd y % 7 = 6) (h0 : 2651 ≤ fp y) (h1 : fp y < 6888) : Kind y := by
  have e1 : y + 1 - 1 = y := by omega
  have n0 := ny_246 (y := y) (by omega)
  have s0 := dd_a (y := y) hl (by omega)
  have n1 := ny_35 (y := (y + 1)) (by omega)
  have q := b7_eq y
  exact Or.inl ⟨hl, Or.inl ⟨by omega, by omega⟩⟩
theorem k_leaf136 {y : Int} (hp : leapB (y - 1) = true) (hl : leapB y = false) (hn : leapB (y + 1) = false) (hw : dd y % 7 = 6) (h0 : 6888 ≤ fp y) (h1 : fp y < 13753) : Kind y := by
  have e1 : y + 1 - 1 = y := by omega
  have n0 := ny_246 (y := y) (by omega)
  have s0 := dd_a (y := y) hl (by omega)
  have n1 := ny_35 (y := (y + 1)) (by omega)
  have q := b7_eq y
  exact Or.inl ⟨hl, Or.inl ⟨by omega, by omega⟩⟩
theorem k_leaf137 {y : Int} (hp : leapB (y - 1) = true) (hl : leapB y = false) (hn : leapB (y + 1) = false) (hw : dd y % 7 = 6) (h0 : 13753 ≤ fp y) (h1 : fp y < 16404) : Kind y := by
  have e1 : y + 1 - 1 = y := by omega
  have n0 := ny_246 (y := y) (by omega)
  have s0 := dd_a (y := y) hl (by omega)
  have n1 := ny_35 (y := (y + 1)) (by omega)
  have q := b7_eq y
  exact Or.inl ⟨hl, Or.inl ⟨by omega, by omega⟩⟩
theorem k_leaf138 {y : Int} (hp : leapB (y - 1) = true) (hl : leapB y = false) (hn : leapB (y + 1) = false) (hw : dd y % 7 = 6) (h0 : 16404 ≤ fp y) (h1 : fp y < 19055) : Kind y := by
  have e1 : y + 1 - 1 = y := by omega
  have n0 := ny_246 (y := y) (by omega)
  have s0 := dd_b (y := y) hl (by omega)
  have n1 := ny_246 (y := (y + 1)) (by omega)
  have q := b7_eq y
  exact Or.inl ⟨hl, Or.inr (Or.inr ⟨by omega, by omega⟩)⟩
theorem k_leaf139 {y : Int} (hp : leapB (y - 1) = true) (hl : leapB y = false) (hn : leapB (y + 1) = false) (hw : dd y % 7 = 6) (h0 : 19055 ≤ fp y) (h1 : fp y < 23269) : Kind y := by
  have e1 : y + 1 - 1 = y := by omega
  have n0 := ny_246 (y := y) (by omega)
  have s0 := dd_b (y := y) hl (by omega)
  have n1 := ny_246 (y := (y + 1)) (by omega)
  have q := b7_eq y
  exact Or.inl ⟨hl, Or.inr (Or.inr ⟨by omega, by omega⟩)⟩
theorem k_leaf140 {y : Int} (hp : leapB (y - 1) = true) (hl : leapB y = false) (hn : leapB (y + 1) = false) (hw : dd y % 7 = 6) (h0 : 23269 ≤ fp y) (h1 : fp y < 25920) : Kind y := by
  have e1 : y + 1 - 1 = y := by omega
  have n0 := ny_246 (y := y) (by omega)
  have s0 := dd_b (y := y) hl (by omega)
  have n1 := ny_246 (y := (y + 1)) (by omega)
  have q := b7_eq y
  exact Or.inl ⟨hl, Or.inr (Or.inr ⟨by omega, by omega⟩)⟩
theorem k_tff {y : Int} (hp : leapB (y - 1) = true) (hl : leapB y = false) (hn : leapB (y + 1) = false) : Kind y := by
  have b0 := fp_bd y
  have hw : dd y % 7 = 0 ∨ dd y % 7 = 1 ∨ dd y % 7 = 2 ∨ dd y % 7 = 3 ∨ dd y % 7 = 4 ∨ dd y % 7 = 5 ∨ dd y % 7 = 6 := by omega
  have hi : (0 ≤ fp y ∧ fp y < 2651) ∨ (2651 ≤ fp y ∧ fp y < 6888) ∨ (6888 ≤ fp y ∧ fp y < 13753) ∨ (13753 ≤ fp y ∧ fp y < 16404) ∨ (16404 ≤ fp y ∧ fp y < 19055) ∨ (19055 ≤ fp y ∧ fp y < 23269) ∨ (23269 ≤ fp y ∧ fp y < 25920) := by omega
  rcases hw with hw | hw | hw | hw | hw | hw | hw <;> rcases hi with hi | hi | hi | hi | hi | hi | hi
  · exact k_leaf92 hp hl hn hw hi.1 hi.2
  · exact k_leaf93 hp hl hn hw hi.1 hi.2
  · exact k_leaf94 hp hl hn hw hi.1 hi.2
  · exact k_leaf95 hp hl hn hw hi.1 hi.2
  · exact k_leaf96 hp hl hn hw hi.1 hi.2
  · exact k_leaf97 hp hl hn hw hi.1 hi.2
  · exact k_leaf98 hp hl hn hw hi.1 hi.2
  · exact k_leaf99 hp hl hn hw hi.1 hi.2
  · exact k_leaf100 hp hl hn hw hi.1 hi.2
  · exact k_leaf101 hp hl hn hw hi.1 hi.2
  · exact k_leaf102 hp hl hn hw hi.1 hi.2
  · exact k_leaf103 hp hl hn hw hi.1 hi.2
  · exact k_leaf104 hp hl hn hw hi.1 hi.2
  · exact k_leaf105 hp hl hn hw hi.1 hi.2
  · exact k_leaf106 hp hl hn hw hi.1 hi.2
  · exact k_leaf107 hp hl hn hw hi.1 hi.2
  · exact k_leaf108 hp hl hn hw hi.1 hi.2
  · exact k_leaf109 hp hl hn hw hi.1 hi.2
  · exact k_leaf110 hp hl hn hw hi.1 hi.2
  · exact k_leaf111 hp hl hn hw hi.1 hi.2
  · exact k_leaf112 hp hl hn hw hi.1 hi.2
  · exact k_leaf113 hp hl hn hw hi.1 hi.2
  · exact k_leaf114 hp hl hn hw hi.1 hi.2
  · exact k_leaf115 hp hl hn hw hi.1 hi.2
  · exact k_leaf116 hp hl hn hw hi.1 hi.2
  · exact k_leaf117 hp hl hn hw hi.1 hi.2
  · exact k_leaf118 hp hl hn hw hi.1 hi.2
  · exact k_leaf119 hp hl hn hw hi.1 hi.2
  · exact k_leaf120 hp hl hn hw hi.1 hi.2
  · exact k_leaf121 hp hl hn hw hi.1 hi.2
  · exact k_leaf122 hp hl hn hw hi.1 hi.2
  · exact k_leaf123 hp hl hn hw hi.1 hi.2
  · exact k_leaf124 hp hl hn hw hi.1 hi.2
  · exact k_leaf125 hp hl hn hw hi.1 hi.2
  · exact k_leaf126 hp hl hn hw hi.1 hi.2
  · exact k_leaf127 hp hl hn hw hi.1 hi.2
  · exact k_leaf128 hp hl hn hw hi.1 hi.2
  · exact k_leaf129 hp hl hn hw hi.1 hi.2
  · exact k_leaf130 hp hl hn hw hi.1 hi.2
  · exact k_leaf131 hp hl hn hw hi.1 hi.2
  · exact k_leaf132 hp hl hn hw hi.1 hi.2
  · exact k_leaf133 hp hl hn hw hi.1 hi.2
  · exact k_leaf134 hp hl hn hw hi.1 hi.2
  · exact k_leaf135 hp hl hn hw hi.1 hi.2
  · exact k_leaf136 hp hl hn hw hi.1 hi.2
  · exact k_leaf137 hp hl hn hw hi.1 hi.2
  · exact k_leaf138 hp hl hn hw hi.1 hi.2
  · exact k_leaf139 hp hl hn hw hi.1 hi.2
  · exact k_leaf140 hp hl hn hw hi.1 hi.2
theorem k_leaf141 {y : Int} (hp : leapB (y - 1) = true) (hl : leapB y = false) (hn : leapB (y + 1) = true) (hw : dd y % 7 = 0) (h0 : 0 ≤ fp y) (h1 : fp y < 2651) : Kind y := by
  have e1 : y + 1 - 1 = y := by omega
  have n0 := ny_0b (y := y) (by omega) (by omega)
  have s0 := dd_a (y := y) hl (by omega)
  have n1 := ny_246 (y := (y + 1)) (by omega)
  have q := b7_eq y
  exact Or.inl ⟨hl, Or.inr (Or.inr ⟨by omega, by omega⟩)⟩
theorem k_leaf142 {y : Int} (hp : leapB (y - 1) = true) (hl : leapB y = false) (hn : leapB (y + 1) = true) (hw : dd y % 7 = 0) (h0 : 2651 ≤ fp y) (h1 : fp y < 6888) : Kind y := by
  have e1 : y + 1 - 1 = y := by omega
  have n0 := ny_0b (y := y) (by omega) (by omega)
  have s0 := dd_a (y := y) hl (by omega)
  have n1 := ny_246 (y := (y + 1)) (by omega)
  have q := b7_eq y
  exact Or.inl ⟨hl, Or.inr (Or.inr ⟨by omega, by omega⟩)⟩
theorem k_leaf143 {y : Int} (hp : leapB (y - 1) = true) (hl : leapB y = false) (hn : leapB (y + 1) = true) (hw : dd y % 7 = 0) (h0 : 6888 ≤ fp y) (h1 : fp y < 13753) : Kind y := by
  have e1 : y + 1 - 1 = y := by omega
  have n0 := ny_0b (y := y) (by omega) (by omega)
  have s0 := dd_a (y := y) hl (by omega)
  have n1 := ny_246 (y := (y + 1)) (by omega)
  have q := b7_eq y
  exact Or.inl ⟨hl, Or.inr (Or.inr ⟨by omega, by omega⟩)⟩
theorem k_leaf144 {y : Int} (hp : leapB (y - 1) = true) (hl : leapB y = false) (hn : leapB (y + 1) = true) (hw : dd y % 7 = 0) (h0 : 13753 ≤ fp y) (h1 : fp y < 16404) : Kind y := by
  have e1 : y + 1 - 1 = y := by omega
  have n0 := ny_0b (y := y) (by omega) (by omega)
  have s0 := dd_a (y := y) hl (by omega)
  have n1 := ny_246 (y := (y + 1)) (by omega)
  have q := b7_eq y
  exact Or.inl ⟨hl, Or.inr (Or.inr ⟨by omega, by omega⟩)⟩
theorem k_leaf145 {y : Int} (hp : leapB (y - 1) = true) (hl : leapB y = false) (hn : leapB (y + 1) = true) (hw : dd y % 7 = 0) (h0 : 16404 ≤ fp y) (h1 : fp y < 19055) : Kind y := by
  have e1 : y + 1 - 1 = y := by omega
  have n0 := ny_0b (y := y) (by omega) (by omega)
  have s0 := dd_b (y := y) hl (by omega)
  have n1 := ny_35 (y := (y + 1)) (by omega)
  have q := b7_eq y
  exact Or.inl ⟨hl, Or.inr (Or.inr ⟨by omega, by omega⟩)⟩
theorem k_leaf146 {y : Int} (hp : leapB (y - 1) = true) (hl : leapB y = false) (hn : leapB (y + 1) = true) (hw : dd y % 7 = 0) (h0 : 19055 ≤ fp y) (h1 : fp y < 23269) : Kind y := by
  have e1 : y + 1 - 1 = y := by omega
  have n0 := ny_0b (y := y) (by omega) (by omega)
  have s0 := dd_b (y := y) hl (by omega)
  have n1 := ny_35 (y := (y + 1)) (by omega)
  have q := b7_eq y
  exact Or.inl ⟨hl, Or.inr (Or.inr ⟨by omega, by omega⟩)⟩
theorem k_leaf147 {y : Int} (hp : leapB (y - 1) = true) (hl : leapB y = false) (hn : leapB (y + 1) = true) (hw : dd y % 7 = 0) (h0 : 23269 ≤ fp y) (h1 : fp y < 25920) : Kind y := by
  have e1 : y + 1 - 1 = y := by omega
  have n0 := ny_0a (y := y) (by omega) (by omega) hp
  have s0 := dd_b (y := y) hl (by omega)
  have n1 := ny_35 (y := (y + 1)) (by omega)
  have q := b7_eq y
  exact Or.inl ⟨hl, Or.inr (Or.inl ⟨by omega, by omega⟩)⟩
theorem k_leaf148 {y : Int} (hp : leapB (y - 1) = true) (hl : leapB y = false) (hn : leapB (y + 1) = true) (hw : dd y % 7 = 1) (h0 : 0 ≤ fp y) (h1 : fp y < 2651) : Kind y := by
  have e1 : y + 1 - 1 = y := by omega
  have n0 := ny_1b (y := y) (by omega) (by omega)
  have s0 := dd_a (y := y) hl (by omega)
  have n1 := ny_35 (y := (y + 1)) (by omega)
  have q := b7_eq y
  exact Or.inl ⟨hl, Or.inr (Or.inl ⟨by omega, by omega⟩)⟩
theorem k_leaf149 {y : Int} (hp : leapB (y - 1) = true) (hl : leapB y = false) (hn : leapB (y + 1) = true) (hw : dd y % 7 = 1) (h0 : 2651 ≤ fp y) (h1 : fp y < 6888) : Kind y := by
  have e1 : y + 1 - 1 = y := by omega
  have n0 := ny_1b (y := y) (by omega) (by omega)
  have s0 := dd_a (y := y) hl (by omega)
  have n1 := ny_35 (y := (y + 1)) (by omega)
  have q := b7_eq y
  exact Or.inl ⟨hl, Or.inr (Or.inl ⟨by omega, by omega⟩)⟩
theorem k_leaf150 {y : Int} (hp : leapB (y - 1) = true) (hl : leapB y = false) (hn : leapB (y + 1) = true) (hw : dd y % 7 = 1) (h0 : 6888 ≤ fp y) (h1 : fp y < 13753) : Kind y := by
  have e1 : y + 1 - 1 = y := by omega
  have n0 := ny_1b (y := y) (by omega) (by omega)
  have s0 := dd_a (y := y) hl (by omega)
  have n1 := ny_35 (y := (y + 1)) (by omega)
  have q := b7_eq y
  exact Or.inl ⟨hl, Or.inr (Or.inl ⟨by omega, by omega⟩)⟩
theorem k_leaf151 {y : Int} (hp : leapB (y - 1) = true) (hl : leapB y = false) (hn : leapB (y + 1) = true) (hw : dd y % 7 = 1) (h0 : 13753 ≤ fp y) (h1 : fp y < 16404) : Kind y := by
  have e1 : y + 1 - 1 = y := by omega
  have n0 := ny_1b (y := y) (by omega) (by omega)
  have s0 := dd_a (y := y) hl (by omega)
  have n1 := ny_35 (y := (y + 1)) (by omega)
  have q := b7_eq y
  exact Or.inl ⟨hl, Or.inr (Or.inl ⟨by omega, by omega⟩)⟩
theorem k_leaf152 {y : Int} (hp : leapB (y - 1) = true) (hl : leapB y = false) (hn : leapB (y + 1) = true) (hw : dd y % 7 = 1) (h0 : 16404 ≤ fp y) (h1 : fp y < 19055) : Kind y := by
  have e1 : y + 1 - 1 = y := by omega
  have n0 := ny_1a (y := y) (by omega) (by omega) hl
  have s0 := dd_b (y := y) hl (by omega)
  have n1 := ny_246 (y := (y + 1)) (by omega)
  have q := b7_eq y
  exact Or.inl ⟨hl, Or.inr (Or.inl ⟨by omega, by omega⟩)⟩
theorem k_leaf153 {y : Int} (hp : leapB (y - 1) = true) (hl : leapB y = false) (hn : leapB (y + 1) = true) (hw : dd y % 7 = 1) (h0 : 19055 ≤ fp y) (h1 : fp y < 23269) : Kind y := by
  have e1 : y + 1 - 1 = y := by omega
  have n0 := ny_1a (y := y) (by omega) (by omega) hl
  have s0 := dd_b (y := y) hl (by omega)
  have n1 := ny_246 (y := (y + 1)) (by omega)
  have q := b7_eq y
  exact Or.inl ⟨hl, Or.inr (Or.inl ⟨by omega, by omega⟩)⟩
theorem k_leaf154 {y : Int} (hp : leapB (y - 1) = true) (hl : leapB y = false) (hn : leapB (y + 1) = true) (hw : dd y % 7 = 1) (h0 : 23269 ≤ fp y) (h1 : fp y < 25920) : Kind y := by
  have e1 : y + 1 - 1 = y := by omega
  have n0 := ny_1a (y := y) (by omega) (by omega) hl
  have s0 := dd_b (y := y) hl (by omega)
  have n1 := ny_246 (y := (y + 1)) (by omega)
  have q := b7_eq y
  exact Or.inl ⟨hl, Or.inr (Or.inl ⟨by omega, by omega⟩)⟩
theorem k_leaf155 {y : Int} (hp : leapB (y - 1) = true) (hl : leapB y = false) (hn : leapB (y + 1) = true) (hw : dd y % 7 = 2) (h0 : 0 ≤ fp y) (h1 : fp y < 2651) : Kind y := by
  have e1 : y + 1 - 1 = y := by omega
  have n0 := ny_246 (y := y) (by omega)
  have s0 := dd_a (y := y) hl (by omega)
  have n1 := ny_246 (y := (y + 1)) (by omega)
  have q := b7_eq y
  exact Or.inl ⟨hl, Or.inr (Or.inl ⟨by omega, by omega⟩)⟩
theorem k_leaf156 {y : Int} (hp : leapB (y - 1) = true) (hl : leapB y = false) (hn : leapB (y + 1) = true) (hw : dd y % 7 = 2) (h0 : 2651 ≤ fp y) (h1 : fp y < 6888) : Kind y := by
  have e1 : y + 1 - 1 = y := by omega
  have n0 := ny_246 (y := y) (by omega)
  have s0 := dd_a (y := y) hl (by omega)
  have n1 := ny_246 (y := (y + 1)) (by omega)
  have q := b7_eq y
  exact Or.inl ⟨hl, Or.inr (Or.inl ⟨by omega, by omega⟩)⟩
theorem k_leaf157 {y : Int} (hp : leapB (y - 1) = true) (hl : leapB y = false) (hn : leapB (y + 1) = true) (hw : dd y % 7 = 2) (h0 : 6888 ≤ fp y) (h1 : fp y < 13753) : Kind y := by
  have e1 : y + 1 - 1 = y := by omega
  have n0 := ny_246 (y := y) (by omega)
  have s0 := dd_a (y := y) hl (by omega)
  have n1 := ny_246 (y := (y + 1)) (by omega)
  have q := b7_eq y
  exact Or.inl ⟨hl, Or.inr (Or.inl ⟨by omega, by omega⟩)⟩
theorem k_leaf158 {y : Int} (hp : leapB (y - 1) = true) (hl : leapB y = false) (hn : leapB (y + 1) = true) (hw : dd y % 7 = 2) (h0 : 13753 ≤ fp y) (h1 : fp y < 16404) : Kind y := by
  have e1 : y + 1 - 1 = y := by omega
  have n0 := ny_246 (y := y) (by omega)
  have s0 := dd_a (y := y) hl (by omega)
  have n1 := ny_246 (y := (y + 1)) (by omega)
  have q := b7_eq y
  exact Or.inl ⟨hl, Or.inr (Or.inl ⟨by omega, by omega⟩)⟩
theorem k_leaf159 {y : Int} (hp : leapB (y - 1) = true) (hl : leapB y = false) (hn : leapB (y + 1) = true) (hw : dd y % 7 = 2) (h0 : 16404 ≤ fp y) (h1 : fp y < 19055) : Kind y := by
  have e1 : y + 1 - 1 = y := by omega
  have n0 := ny_246 (y := y) (by omega)
  have s0 := dd_b (y := y) hl (by omega)
  have n1 := ny_0c (y := (y + 1)) (by omega) (by rw [e1]; exact hl)
  have q := b7_eq y
  exact Or.inl ⟨hl, Or.inr (Or.inl ⟨by omega, by omega⟩)⟩
theorem k_leaf160 {y : Int} (hp : leapB (y - 1) = true) (hl : leapB y = false) (hn : leapB (y + 1) = true) (hw : dd y % 7 = 2) (h0 : 19055 ≤ fp y) (h1 : fp y < 23269) : Kind y := by
  have e1 : y + 1 - 1 = y := by omega
  have n0 := ny_246 (y := y) (by omega)
  have s0 := dd_b (y := y) hl (by omega)
  have n1 := ny_0c (y := (y + 1)) (by omega) (by rw [e1]; exact hl)
  have q := b7_eq y
  exact Or.inl ⟨hl, Or.inr (Or.inl ⟨by omega, by omega⟩)⟩
theorem k_leaf161 {y : Int} (hp : leapB (y - 1) = true) (hl : leapB y = false) (hn : leapB (y + 1) = true) (hw : dd y % 7 = 2) (h0 : 23269 ≤ fp y) (h1 : fp y < 25920) : Kind y := by
  have e1 : y + 1 - 1 = y := by omega
  have n0 := ny_246 (y := y) (by omega)
  have s0 := dd_b (y := y) hl (by omega)
  have n1 := ny_0c (y := (y + 1)) (by omega) (by rw [e1]; exact hl)
  have q := b7_eq y
  exact Or.inl ⟨hl, Or.inr (Or.inl ⟨by omega, by omega⟩)⟩
theorem k_leaf162 {y : Int} (hp : leapB (y - 1) = true) (hl : leapB y = false) (hn : leapB (y + 1) = true) (hw : dd y % 7 = 3) (h0 : 0 ≤ fp y) (h1 : fp y < 2651) : Kind y := by
  have e1 : y + 1 - 1 = y := by omega
  have n0 := ny_35 (y := y) (by omega)
  have s0 := dd_a (y := y) hl (by omega)
  have n1 := ny_0c (y := (y + 1)) (by omega) (by rw [e1]; exact hl)
  have q := b7_eq y
  exact Or.inl ⟨hl, Or.inr (Or.inl ⟨by omega, by omega⟩)⟩
theorem k_leaf163 {y : Int} (hp : leapB (y - 1) = true) (hl : leapB y = false) (hn : leapB (y + 1) = true) (hw : dd y % 7 = 3) (h0 : 2651 ≤ fp y) (h1 : fp y < 6888) : Kind y := by
  have e1 : y + 1 - 1 = y := by omega
  have n0 := ny_35 (y := y) (by omega)
  have s0 := dd_a (y := y) hl (by omega)
  have n1 := ny_0c (y := (y + 1)) (by omega) (by rw [e1]; exact hl)
  have q := b7_eq y
  exact Or.inl ⟨hl, Or.inr (Or.inl ⟨by omega, by omega⟩)⟩
theorem k_leaf164 {y : Int} (hp : leapB (y - 1) = true) (hl : leapB y = false) (hn : leapB (y + 1) = true) (hw : dd y % 7 = 3) (h0 : 6888 ≤ fp y) (h1 : fp y < 13753) : Kind y := by
  have e1 : y + 1 - 1 = y := by omega
  have n0 := ny_35 (y := y) (by omega)
  have s0 := dd_a (y := y) hl (by omega)
  have n1 := ny_0c (y := (y + 1)) (by omega) (by rw [e1]; exact hl)
  have q := b7_eq y
  exact Or.inl ⟨hl, Or.inr (Or.inl ⟨by omega, by omega⟩)⟩
theorem k_leaf165 {y : Int} (hp : leapB (y - 1) = true) (hl : leapB y = false) (hn : leapB (y + 1) = true) (hw : dd y % 7 = 3) (h0 : 13753 ≤ fp y) (h1 : fp y < 16404) : Kind y := by
  have e1 : y + 1 - 1 = y := by omega
  have n0 := ny_35 (y := y) (by omega)
  have s0 := dd_a (y := y) hl (by omega)
  have n1 := ny_0c (y := (y + 1)) (by omega) (by rw [e1]; exact hl)
  have q := b7_eq y
  exact Or.inl ⟨hl, Or.inr (Or.inl ⟨by omega, by omega⟩)⟩
theorem k_leaf166 {y : Int} (hp : leapB (y - 1) = true) (hl : leapB y = false) (hn : leapB (y + 1) = true) (hw : dd y % 7 = 3) (h0 : 16404 ≤ fp y) (h1 : fp y < 19055) : Kind y := by
  have e1 : y + 1 - 1 = y := by omega
  have n0 := ny_35 (y := y) (by omega)
  have s0 := dd_b (y := y) hl (by omega)
  have n1 := ny_1c (y := (y + 1)) (by omega) hn
  have q := b7_eq y
  exact Or.inl ⟨hl, Or.inr (Or.inr ⟨by omega, by omega⟩)⟩
theorem k_leaf167 {y : Int} (hp : leapB (y - 1) = true) (hl : leapB y = false) (hn : leapB (y + 1) = true) (hw : dd y % 7 = 3) (h0 : 19055 ≤ fp y) (h1 : fp y < 23269) : Kind y := by
  have e1 : y + 1 - 1 = y := by omega
  have n0 := ny_35 (y := y) (by omega)
  have s0 := dd_b (y := y) hl (by omega)
  have n1 := ny_1c (y := (y + 1)) (by omega) hn
  have q := b7_eq y
  exact Or.inl ⟨hl, Or.inr (Or.inr ⟨by omega, by omega⟩)⟩
theorem k_leaf168 {y : Int} (hp : leapB (y - 1) = true) (hl : leapB y = false) (hn : leapB (y + 1) = true) (hw : dd y % 7 = 3) (h0 : 23269 ≤ fp y) (h1 : fp y < 25920) : Kind y := by
  have e1 : y + 1 - 1 = y := by omega
  have n0 := ny_35 (y := y) (by omega)
  have s0 := dd_b (y := y) hl (by omega)
  have n1 := ny_1c (y := (y + 1)) (by omega) hn
  have q := b7_eq y
  exact Or.inl ⟨hl, Or.inr (Or.inr ⟨by omega, by omega⟩)⟩
theorem k_leaf169 {y : Int} (hp : leapB (y - 1) = true) (hl : leapB y = false) (hn : leapB (y + 1) = true) (hw : dd y % 7 = 4) (h0 : 0 ≤ fp y) (h1 : fp y < 2651) : Kind y := by
  have e1 : y + 1 - 1 = y := by omega
  have n0 := ny_246 (y := y) (by omega)
  have s0 := dd_a (y := y) hl (by omega)
  have n1 := ny_1c (y := (y + 1)) (by omega) hn
  have q := b7_eq y
  exact Or.inl ⟨hl, Or.inl ⟨by omega, by omega⟩⟩
theorem k_leaf170 {y : Int} (hp : leapB (y - 1) = true) (hl : leapB y = false) (hn : leapB (y + 1) = true) (hw : dd y % 7 = 4) (h0 : 2651 ≤ fp y) (h1 : fp y < 6888) : Kind y := by
  have e1 : y + 1 - 1 = y := by omega
  have n0 := ny_246 (y := y) (by omega)
  have s0 := dd_a (y := y) hl (by omega)
  have n1 := ny_1c (y := (y + 1)) (by omega) hn
  have q := b7_eq y
  exact Or.inl ⟨hl, Or.inl ⟨by omega, by omega⟩⟩
theorem k_leaf171 {y : Int} (hp : leapB (y - 1) = true) (hl : leapB y = false) (hn : leapB (y + 1) = true) (hw : dd y % 7 = 4) (h0 : 6888 ≤ fp y) (h1 : fp y < 13753) : Kind y := by
  have e1 : y + 1 - 1 = y := by omega
  have n0 := ny_246 (y := y) (by omega)
  have s0 := dd_a (y := y) hl (by omega)
  have n1 := ny_1c (y := (y + 1)) (by omega) hn
  have q := b7_eq y
  exact Or.inl ⟨hl, Or.inl ⟨by omega, by omega⟩⟩
theorem k_leaf172 {y : Int} (hp : leapB (y - 1) = true) (hl : leapB y = false) (hn : leapB (y + 1) = true) (hw : dd y % 7 = 4) (h0 : 13753 ≤ fp y) (h1 : fp y < 16404) : Kind y := by
  have e1 : y + 1 - 1 = y := by omega
  have n0 := ny_246 (y := y) (by omega)
  have s0 := dd_a (y := y) hl (by omega)
  have n1 := ny_1c (y := (y + 1)) (by omega) hn
  have q := b7_eq y
  exact Or.inl ⟨hl, Or.inl ⟨by omega, by omega⟩⟩
theorem k_leaf173 {y : Int} (hp : leapB (y - 1) = true) (hl : leapB y = false) (hn : leapB (y + 1) = true) (hw : dd y % 7 = 4) (h0 : 16404 ≤ fp y) (h1 : fp y < 19055) : Kind y := by
  have e1 : y + 1 - 1 = y := by omega
  have n0 := ny_246 (y := y) (by omega)
  have s0 := dd_b (y := y) hl (by omega)
  have n1 := ny_246 (y := (y + 1)) (by omega)
  have q := b7_eq y
  exact Or.inl ⟨hl, Or.inr (Or.inr ⟨by omega, by omega⟩)⟩
theorem k_leaf174 {y : Int} (hp : leapB (y - 1) = true) (hl : leapB y = false) (hn : leapB (y + 1) = true) (hw : dd y % 7 = 4) (h0 : 19055 ≤ fp y) (h1 : fp y < 23269) : Kind y := by
  have e1 : y + 1 - 1 = y := by omega
  have n0 := ny_246 (y := y) (by omega)
  have s0 := dd_b (y := y) hl (by omega)
  have n1 := ny_246 (y := (y + 1)) (by omega)
  have q := b7_eq y
  exact Or.inl ⟨hl, Or.inr (Or.inr ⟨by omega, by omega⟩)⟩
theorem k_leaf175 {y : Int} (hp : leapB (y - 1) = true) (hl : leapB y = false) (hn : leapB (y + 1) = true) (hw : dd y % 7 = 4) (h0 : 23269 ≤ fp y) (h1 : fp y < 25920) : Kind y := by
  have e1 : y + 1 - 1 = y := by omega
  have n0 := ny_246 (y := y) (by omega)
  have s0 := dd_b (y := y) hl (by omega)
  have n1 := ny_246 (y := (y + 1)) (by omega)
  have q := b7_eq y
  exact Or.inl ⟨hl, Or.inr (Or.inr ⟨by omega, by omega⟩)⟩
theorem k_leaf176 {y : Int} (hp : leapB (y - 1) = true) (hl : leapB y = false) (hn : leapB (y + 1) = true) (hw : dd y % 7 = 5) (h0 : 0 ≤ fp y) (h1 : fp y < 2651) : Kind y := by
  have e1 : y + 1 - 1 = y := by omega
  have n0 := ny_35 (y := y) (by omega)
  have s0 := dd_a (y := y) hl (by omega)
  have n1 := ny_246 (y := (y + 1)) (by omega)
  have q := b7_eq y
  exact Or.inl ⟨hl, Or.inr (Or.inr ⟨by omega, by omega⟩)⟩
theorem k_leaf177 {y : Int} (hp : leapB (y - 1) = true) (hl : leapB y = false) (hn : leapB (y + 1) = true) (hw : dd y % 7 = 5) (h0 : 2651 ≤ fp y) (h1 : fp y < 6888) : Kind y := by
  have e1 : y + 1 - 1 = y := by omega
  have n0 := ny_35 (y := y) (by omega)
  have s0 := dd_a (y := y) hl (by omega)
  have n1 := ny_246 (y := (y + 1)) (by omega)
  have q := b7_eq y
  exact Or.inl ⟨hl, Or.inr (Or.inr ⟨by omega, by omega⟩)⟩
theorem k_leaf178 {y : Int} (hp : leapB (y - 1) = true) (hl : leapB y = false) (hn : leapB (y + 1) = true) (hw : dd y % 7 = 5) (h0 : 6888 ≤ fp y) (h1 : fp y < 13753) : Kind y := by
  have e1 : y + 1 - 1 = y := by omega
  have n0 := ny_35 (y := y) (by omega)
  have s0 := dd_a (y := y) hl (by omega)
  have n1 := ny_246 (y := (y + 1)) (by omega)
  have q := b7_eq y
  exact Or.inl ⟨hl, Or.inr (Or.inr ⟨by omega, by omega⟩)⟩
theorem k_leaf179 {y : Int} (hp : leapB (y - 1) = true) (hl : leapB y = false) (hn : leapB (y + 1) = true) (hw : dd y % 7 = 5) (h0 : 13753 ≤ fp y) (h1 : fp y < 16404) : Kind y := by
  have e1 : y + 1 - 1 = y := by omega
  have n0 := ny_35 (y := y) (by omega)
  have s0 := dd_a (y := y) hl (by omega)
  have n1 := ny_246 (y := (y + 1)) (by omega)
  have q := b7_eq y
  exact Or.inl ⟨hl, Or.inr (Or.inr ⟨by omega, by omega⟩)⟩
theorem k_leaf180 {y : Int} (hp : leapB (y - 1) = true) (hl : leapB y = false) (hn : leapB (y + 1) = true) (hw : dd y % 7 = 5) (h0 : 16404 ≤ fp y) (h1 : fp y < 19055) : Kind y := by
  have e1 : y + 1 - 1 = y := by omega
  have n0 := ny_35 (y := y) (by omega)
  have s0 := dd_b (y := y) hl (by omega)
  have n1 := ny_35 (y := (y + 1)) (by omega)
  have q := b7_eq y
  exact Or.inl ⟨hl, Or.inr (Or.inr ⟨by omega, by omega⟩)⟩
theorem k_leaf181 {y : Int} (hp : leapB (y - 1) = true) (hl : leapB y = false) (hn : leapB (y + 1) = true) (hw : dd y % 7 = 5) (h0 : 19055 ≤ fp y) (h1 : fp y < 23269) : Kind y := by
  have e1 : y + 1 - 1 = y := by omega
  have n0 := ny_35 (y := y) (by omega)
  have s0 := dd_b (y := y) hl (by omega)
  have n1 := ny_35 (y := (y + 1)) (by omega)
  have q := b7_eq y
  exact Or.inl ⟨hl, Or.inr (Or.inr ⟨by omega, by omega⟩)⟩
theorem k_leaf182 {y : Int} (hp : leapB (y - 1) = true) (hl : leapB y = false) (hn : leapB (y + 1) = true) (hw : dd y % 7 = 5) (h0 : 23269 ≤ fp y) (h1 : fp y < 25920) : Kind y := by
  have e1 : y + 1 - 1 = y := by omega
  have n0 := ny_35 (y := y) (by omega)
  have s0 := dd_b (y := y) hl (by omega)
  have n1 := ny_35 (y := (y + 1)) (by omega)
  have q := b7_eq y
  exact Or.inl ⟨hl, Or.inr (Or.inr ⟨by omega, by omega⟩)⟩
theorem k_leaf183 {y : Int} (hp : leapB (y - 1) = true) (hl : leapB y = false) (hn : leapB (y + 1) = true) (hw : dd y % 7 = 6) (h0 : 0 ≤ fp y) (h1 : fp y < 2651) : Kind y := by
  have e1 : y + 1 - 1 = y := by omega
  have n0 := ny_246 (y := y) (by omega)
  have s0 := dd_a (y := y) hl (by omega)
  have n1 := ny_35 (y := (y + 1)) (by omega)
  have q := b7_eq y
  exact Or.inl ⟨hl, Or.inl ⟨by omega, by omega⟩⟩
theorem k_leaf184 {y : Int} (hp : leapB (y - 1) = true) (hl : leapB y = false) (hn : leapB (y + 1) = true) (hw : dd y % 7 = 6) (h0 : 2651 ≤ fp y) (h1 : fp y < 6888) : Kind y := by
  have e1 : y + 1 - 1 = y := by omega
  have n0 := ny_246 (y := y) (by omega)
  have s0 := dd_a (y := y) hl (by omega)
  have n1 := ny_35 (y := (y + 1)) (by omega)
  have q := b7_eq y
  exact Or.inl ⟨hl, Or.inl ⟨by omega, by omega⟩⟩
theorem k_leaf185 {y : Int} (hp : leapB (y - 1) = true) (hl : leapB y = false) (hn : leapB (y + 1) = true) (hw : dd y % 7 = 6) (h0 : 6888 ≤ fp y) (h1 : fp y < 13753) : Kind y := by
  have e1 : y + 1 - 1 = y := by omega
  have n0 := ny_246 (y := y) (by omega)
  have s0 := dd_a (y := y) hl (by omega)
  have n1 := ny_35 (y := (y + 1)) (by omega)
  have q := b7_eq y
  exact Or.inl ⟨hl, Or.inl ⟨by omega, by omega⟩⟩
theorem k_leaf186 {y : Int} (hp : leapB (y - 1) = true) (hl : leapB y = false) (hn : leapB (y + 1) = true) (hw : dd y % 7 = 6) (h0 : 13753 ≤ fp y) (h1 : fp y < 16404) : Kind y := by
  have e1 : y + 1 - 1 = y := by omega
  have n0 := ny_246 (y := y) (by omega)
  have s0 := dd_a (y := y) hl (by omega)
  have n1 := ny_35 (y := (y + 1)) (by omega)
  have q := b7_eq y
  exact Or.inl ⟨hl, Or.inl ⟨by omega, by omega⟩⟩
theorem k_leaf187 {y : Int} (hp : leapB (y - 1) = true) (hl : leapB y = false) (hn : leapB (y + 1) = true) (hw : dd y % 7 = 6) (h0 : 16404 ≤ fp y) (h1 : fp y < 19055) : Kind y := by
  have e1 : y + 1 - 1 = y := by omega
  have n0 := ny_246 (y := y) (by omega)
  have s0 := dd_b (y := y) hl (by omega)
  have n1 := ny_246 (y := (y + 1)) (by omega)
  have q := b7_eq y
  exact Or.inl ⟨hl, Or.inr (Or.inr ⟨by omega, by omega⟩)⟩
theorem k_leaf188 {y : Int} (hp : leapB (y - 1) = true) (hl : leapB y = false) (hn : leapB (y + 1) = true) (hw : dd y % 7 = 6) (h0 : 19055 ≤ fp y) (h1 : fp y < 23269) : Kind y := by
  have e1 : y + 1 - 1 = y := by omega
  have n0 := ny_246 (y := y) (by omega)
  have s0 := dd_b (y := y) hl (by omega)
  have n1 := ny_246 (y := (y + 1)) (by omega)
  have q := b7_eq y
  exact Or.inl ⟨hl, Or.inr (Or.inr ⟨by omega, by omega⟩)⟩
theorem k_leaf189 {y : Int} (hp : leapB (y - 1) = true) (hl : leapB y = false) (hn : leapB (y + 1) = true) (hw : dd y % 7 = 6) (h0 : 23269 ≤ fp y) (h1 : fp y < 25920) : Kind y := by
  have e1 : y + 1 - 1 = y := by omega
  have n0 := ny_246 (y := y) (by omega)
  have s0 := dd_b (y := y) hl (by omega)
  have n1 := ny_246 (y := (y + 1)) (by omega)
  have q := b7_eq y
  exact Or.inl ⟨hl, Or.inr (Or.inr ⟨by omega, by omega⟩)⟩
theorem k_tft {y : Int} (hp : leapB (y - 1) = true) (hl : leapB y = false) (hn : leapB (y + 1) = true) : Kind y := by
  have b0 := fp_bd y
  have hw : dd y % 7 = 0 ∨ dd y % 7 = 1 ∨ dd y % 7 = 2 ∨ dd y % 7 = 3 ∨ dd y % 7 = 4 ∨ dd y % 7 = 5 ∨ dd y % 7 = 6 := by omega
  have hi : (0 ≤ fp y ∧ fp y < 2651) ∨ (2651 ≤ fp y ∧ fp y < 6888) ∨ (6888 ≤ fp y ∧ fp y < 13753) ∨ (13753 ≤ fp y ∧ fp y < 16404) ∨ (16404 ≤ fp y ∧ fp y < 19055) ∨ (19055 ≤ fp y ∧ fp y < 23269) ∨ (23269 ≤ fp y ∧ fp y < 25920) := by omega
  rcases hw with hw | hw | hw | hw | hw | hw | hw <;> rcases hi with hi | hi | hi | hi | hi | hi | hi
  · exact k_leaf141 hp hl hn hw hi.1 hi.2
  · exact k_leaf142 hp hl hn hw hi.1 hi.2
  · exact k_leaf143 hp hl hn hw hi.1 hi.2
  · exact k_leaf144 hp hl hn hw hi.1 hi.2
  · exact k_leaf145 hp hl hn hw hi.1 hi.2
  · exact k_leaf146 hp hl hn hw hi.1 hi.2
  · exact k_leaf147 hp hl hn hw hi.1 hi.2
  · exact k_leaf148 hp hl hn hw hi.1 hi.2
  · exact k_leaf149 hp hl hn hw hi.1 hi.2
  · exact k_leaf150 hp hl hn hw hi.1 hi.2
  · exact k_leaf151 hp hl hn hw hi.1 hi.2
  · exact k_leaf152 hp hl hn hw hi.1 hi.2
  · exact k_leaf153 hp hl hn hw hi.1 hi.2
  · exact k_leaf154 hp hl hn hw hi.1 hi.2
  · exact k_leaf155 hp hl hn hw hi.1 hi.2
  · exact k_leaf156 hp hl hn hw hi.1 hi.2
  · exact k_leaf157 hp hl hn hw hi.1 hi.2
  · exact k_leaf158 hp hl hn hw hi.1 hi.2
  · exact k_leaf159 hp hl hn hw hi.1 hi.2
  · exact k_leaf160 hp hl hn hw hi.1 hi.2
  · exact k_leaf161 hp hl hn hw hi.1 hi.2
  · exact k_leaf162 hp hl hn hw hi.1 hi.2
  · exact k_leaf163 hp hl hn hw hi.1 hi.2
  · exact k_leaf164 hp hl hn hw hi.1 hi.2
  · exact k_leaf165 hp hl hn hw hi.1 hi.2
  · exact k_leaf166 hp hl hn hw hi.1 hi.2
  · exact k_leaf167 hp hl hn hw hi.1 hi.2
  · exact k_leaf168 hp hl hn hw hi.1 hi.2
  · exact k_leaf169 hp hl hn hw hi.1 hi.2
  · exact k_leaf170 hp hl hn hw hi.1 hi.2
  · exact k_leaf171 hp hl hn hw hi.1 hi.2
  · exact k_leaf172 hp hl hn hw hi.1 hi.2
  · exact k_leaf173 hp hl hn hw hi.1 hi.2
  · exact k_leaf174 hp hl hn hw hi.1 hi.2
  · exact k_leaf175 hp hl hn hw hi.1 hi.2
  · exact k_leaf176 hp hl hn hw hi.1 hi.2
  · exact k_leaf177 hp hl hn hw hi.1 hi.2
  · exact k_leaf178 hp hl hn hw hi.1 hi.2
  · exact k_leaf179 hp hl hn hw hi.1 hi.2
  · exact k_leaf180 hp hl hn hw hi.1 hi.2
  · exact k_leaf181 hp hl hn hw hi.1 hi.2
  · exact k_leaf182 hp hl hn hw hi.1 hi.2
  · exact k_leaf183 hp hl hn hw hi.1 hi.2
  · exact k_leaf184 hp hl hn hw hi.1 hi.2
  · exact k_leaf185 hp hl hn hw hi.1 hi.2
  · exact k_leaf186 hp hl hn hw hi.1 hi.2
  · exact k_leaf187 hp hl hn hw hi.1 hi.2
  · exact k_leaf188 hp hl hn hw hi.1 hi.2
  · exact k_leaf189 hp hl hn hw hi.1 hi.2
theorem kind (y : Int) : Kind y := by
  have g1 := leap_gap (y - 1)
  have g2 := leap_gap y
  have e1 : y - 1 + 1 = y := by omega
  have e2 : y - 1 + 2 = y + 1 := by omega
  rw [e1, e2] at g1
  cases hp : leapB (y - 1) <;> cases hl : leapB y <;> cases hn : leapB (y + 1)
  · exfalso; simp [hp, hl, hn] at g1 g2
  · exact k_fft hp hl hn
  · exact k_ftf hp hl hn
  · exfalso; simp [hp, hl, hn] at g1 g2
  · exact k_tff hp hl hn
  · exact k_tft hp hl hn
  · exfalso; simp [hp, hl, hn] at g1 g2
  · exfalso; simp [hp, hl, hn] at g1 g2
end Mine
end

section
open PySem PySem.W PyProof.Rows
set_option maxRecDepth 100000 
namespace Mine
/-- the days of a month -/
@[irreducible] def ml (y m : Int) : Int := if m = 2 ∨ m = 4 ∨ m = 6 ∨ m = 10 ∨ m = 13 then 29 else if m = 12 ∧ leapB y = false then 29 else if m = 8 ∧ (ny (y + 1) - ny y) % 10 ≠ 5 then 29 else if m = 9 ∧ (ny (y + 1) - ny y) % 10 = 3 then 29 else 30
theorem ml_bd (y m : Int) : 29 ≤ ml y m ∧ ml y m ≤ 30 := by
  unfold ml; (repeat' split) <;> omega
def smR (y a : Int) : Nat → Int
  | 0 => 0
  | n + 1 => smR y a n + ml y (a + n)
/-- the days of n months from month a on -/
@[irreducible] def sm (y a : Int) (n : Nat) : Int := smR y a n
theorem sm_zero (y a : Int) : sm y a 0 = 0 := by unfold sm; rfl
theorem sm_succ (y a : Int) (n : Nat) : sm y a (n + 1) = sm y a n + ml y (a + (n : Int)) := by unfold sm; rfl
theorem sm_bd (y a : Int) (n : Nat) : 29 * (n : Int) ≤ sm y a n ∧ sm y a n ≤ 30 * (n : Int) := by
  induction n with
  | zero => rw [sm_zero]; omega
  | succ n ih =>
    have := ml_bd y (a + n)
    rw [sm_succ]
    omega
/-- a marker: the year that is asked -/
structure Yr (y : Int) : Prop where

section loop
variable {prog : Program} {w : World} {A : Around} {E : Value → Shared → Prop} {s : Shared} {env : Env} {h₀ : Heap} {x y : Str} {body : List Stmt} {Q : Flow → Shared → Prop}

def FEnd (h₀ : Heap) (L : Addr) (x y : Str) (m₀ : Str → Option Value) (P : Int → Prop) (led : List (Addr × Obj)) (s₁ s₂ : Shared) : Prop :=
  ∃ h' tk m' c t', s₂ = { s₁ with heap := h', toks := tk } ∧ Fr h₀ L h' m' ∧ News h₀ L h' led ∧ m' y = some (.float (hf c) t') ∧ P c ∧ ∀ z, z ≠ x → z ≠ y → m' z = m₀ z
def FPost (h₀ : Heap) (L : Addr) (x y : Str) (m₀ : Str → Option Value) (P : Int → Prop) (led : List (Addr × Obj)) (s₁ : Shared) (Q : Flow → Shared → Prop) (f : Flow) (s₂ : Shared) : Prop :=
  match f with
  | .ret v => Q (.ret v) s₂
  | .brk => Q .next s₂
  | _ => FEnd h₀ L x y m₀ P led s₁ s₂
theorem FEnd.intro {L : Addr} {m₀ m' : Str → Option Value} {P : Int → Prop} {led : List (Addr × Obj)} {s₁ : Shared} {h' : Heap} {tk : Nat} {c : Int} {t' : Tok} (F : Fr h₀ L h' m') (N : News h₀ L h' led)
    (hy : m' y = some (.float (hf c) t')) (hP : P c) (hm : ∀ z, z ≠ x → z ≠ y → m' z = m₀ z) : FEnd h₀ L x y m₀ P led s₁ { s₁ with heap := h', toks := tk } := ⟨h', tk, m', c, t', rfl, F, N, hy, hP, hm⟩

theorem map_jd {m₁ m₀ : Str → Option Value} {v u : Value} (ha : m₁ y = some u) (hm : ∀ z, z ≠ x → z ≠ y → m₁ z = m₀ z) :
    (fun z => if z = x then some v else m₁ z) = fun z => if z = x then some v else if z = y then some u else m₀ z := by
  funext z
  by_cases h1 : z = x
  · rw [if_pos h1, if_pos h1]
  · rw [if_neg h1, if_neg h1]
    by_cases h2 : z = y
    · rw [if_pos h2, h2, ha]
    · rw [if_neg h2]; exact hm z h1 h2
theorem map_jd' {m₁ m₀ : Str → Option Value} {u : Value} (ha : m₁ y = some u) (hm : ∀ z, z ≠ x → z ≠ y → m₁ z = m₀ z) :
    m₁ = fun z => if z = x then m₁ z else if z = y then some u else m₀ z := by
  funext z
  by_cases h1 : z = x
  · rw [if_pos h1]
  · rw [if_neg h1]
    by_cases h2 : z = y
    · rw [if_pos h2, h2, ha]
    · rw [if_neg h2]; exact hm z h1 h2

theorem rest_jd {I : Addr} {a₀ : Int} {n : Nat} {m₀ : Str → Option Value} {news : List (Addr × Obj)} (P : Nat → Int → Prop) (hoff : ∀ p ∈ news, p.1 < I)
    (turn : ∀ i t c t' h tk, i < n → P i c → Fr h₀ env.locals h (fun z => if z = x then some (.int (a₀ + (i : Int)) t) else if z = y then some (.float (hf c) t') else m₀ z) →
      News h₀ env.locals h ((I, itR (a₀ + ((i + 1 : Nat) : Int)) ((n : Int) - ((i + 1 : Nat) : Int))) :: news) →
      wpAny (model prog w) A (execs body env) (FPost h₀ env.locals x y m₀ (P (i + 1)) ((I, itR (a₀ + ((i + 1 : Nat) : Int)) ((n : Int) - ((i + 1 : Nat) : Int))) :: news) { s with heap := h, toks := tk } Q) E { s with heap := h, toks := tk })
    (done : ∀ (u : Str → Option Value) c t' h tk, P n c → Fr h₀ env.locals h (fun z => if z = x then u z else if z = y then some (.float (hf c) t') else m₀ z) → News h₀ env.locals h news → Q .next { s with heap := h, toks := tk }) :
    ∀ k i m₁ c t', i + k = n → P i c → m₁ y = some (.float (hf c) t') → (∀ z, z ≠ x → z ≠ y → m₁ z = m₀ z) → RangeRest prog w A E h₀ env x body Q s I a₀ n k i m₁ news := by
  intro k
  induction k with
  | zero =>
    intro i m₁ c t' hi hP hy hm
    have hi : i = n := by omega
    subst hi
    refine RangeRest.zero fun h tk F N => ?_
    rw [map_jd' hy hm] at F
    exact done m₁ c t' h tk hP F N
  | succ k ih =>
    intro i m₁ c t' hi hP hy hm
    refine RangeRest.succ fun t h tk F N => ?_
    rw [map_jd hy hm] at F
    refine wpAny_mono (turn i t c t' h tk (by omega) hP F N) (fun f s₂ p => ?_) fun _ _ e => e
    have fin : FEnd h₀ env.locals x y m₀ (P (i + 1)) ((I, itR (a₀ + ((i + 1 : Nat) : Int)) ((n : Int) - ((i + 1 : Nat) : Int))) :: news) { s with heap := h, toks := tk } s₂ →
        UnrEnd h₀ env.locals { s with heap := h, toks := tk } I (itR (a₀ + ((i + 1 : Nat) : Int)) ((n : Int) - ((i + 1 : Nat) : Int))) (RangeRest prog w A E h₀ env x body Q s I a₀ n k (i + 1)) s₂ := by
      rintro ⟨h', tk', m', c', t'', rfl, F', N', hy', hP', hm'⟩
      exact ⟨h', tk', m', news, rfl, F', N', fun p hp => Nat.ne_of_lt (hoff p hp), ih (i + 1) m' c' t'' (by omega) hP' hy' hm'⟩
    cases f with
    | ret v => exact p
    | brk => exact p
    | next => exact fin p
    | cont => exact fin p

theorem iter_jd {r : Addr} {a₀ b₀ : Int} {t₀ u₀ v₀ : Tok} {m₀ : Str → Option Value} {news : List (Addr × Obj)} {c₀ Y : Int} {tc : Tok} (_yr : Yr Y)
    (hh : A.handled = none) (hr : IsRange s.heap r a₀ b₀ 1 t₀ u₀ v₀) (hsmall : Builtin.Range.small a₀ b₀ 1 = true) (F : Fr h₀ env.locals s.heap m₀) (N : News h₀ env.locals s.heap news) (hy : m₀ y = some (.float (hf c₀) tc))
    (turn : ∀ (i : Nat) t c t' h tk I, (i : Int) < b₀ - a₀ → c = c₀ + 2 * sm Y a₀ i → 0 ≤ sm Y a₀ i → sm Y a₀ i ≤ 30 * (i : Int) → Fr h₀ env.locals h (fun z => if z = x then some (.int (a₀ + (i : Int)) t) else if z = y then some (.float (hf c) t') else m₀ z) →
      News h₀ env.locals h ((I, itR (a₀ + ((i + 1 : Nat) : Int)) (((b₀ - a₀).toNat : Int) - ((i + 1 : Nat) : Int))) :: news) →
      wpAny (model prog w) A (execs body env) (FPost h₀ env.locals x y m₀ (fun c => c = c₀ + 2 * (sm Y a₀ i + ml Y (a₀ + i))) ((I, itR (a₀ + ((i + 1 : Nat) : Int)) (((b₀ - a₀).toNat : Int) - ((i + 1 : Nat) : Int))) :: news) { s with heap := h, toks := tk } Q) E { s with heap := h, toks := tk })
    (done : ∀ (u : Str → Option Value) c t' h tk, c = c₀ + 2 * sm Y a₀ (b₀ - a₀).toNat → 0 ≤ sm Y a₀ (b₀ - a₀).toNat → sm Y a₀ (b₀ - a₀).toNat ≤ 30 * ((b₀ - a₀).toNat : Int) → Fr h₀ env.locals h (fun z => if z = x then u z else if z = y then some (.float (hf c) t') else m₀ z) → News h₀ env.locals h news → Q .next { s with heap := h, toks := tk }) :
    wpAny (model prog w) A (pyIter (.ref r)) (fun it s₂ => LoopAtV prog w A h₀ env x body Q E it s₂) E s := by
  refine iter_rangeUnr (n := (b₀ - a₀).toNat) hh hr hsmall (rangeSize_nat _ _) F N (fun I hI => ?_)
  refine rest_jd (y := y) (m₀ := m₀) (fun i c => c = c₀ + 2 * sm Y a₀ i) hI ?_ ?_ _ 0 m₀ c₀ tc (by omega) (by rw [sm_zero]; omega) hy (fun _ _ _ => rfl)
  · intro i t c t' h tk hi hc F N
    have b := sm_bd Y a₀ i
    have q := turn i t c t' h tk I (by omega) hc (by omega) (by omega) F N
    rw [← sm_succ] at q
    exact q
  · intro u c t' h tk hc F N
    have b := sm_bd Y a₀ (b₀ - a₀).toNat
    exact done u c t' h tk hc (by omega) (by omega) F N
end loop
end Mine
end

section
open PySem PySem.W PyProof.Rows
set_option Elab.async false
set_option maxRecDepth 100000 
set_option maxHeartbeats 8000000 
namespace Mine
def Cl (D U : Nat) (f : Addr) (vs : List Value) (R : Value → Prop) : Prop :=
  ∀ (w : World) (mean : ExcName → Option Value) (mg mb : Str → Option Value) (dp un : Nat) (gd : Option (List Code)) (cn : Str) (cs : Scope) (a : Addr) (ccd : Value) (cl : List (Str × Addr)) (outer : List Env) (A₀ : Around) (base h₀ : Heap) (L : Addr) (m : Str → Option Value) (news : List (Addr × Obj)) (s : Shared) (Q E : Value → Shared → Prop),
    Below A₀ base outer h₀ → Fr h₀ L s.heap m → (Mine.hd1.heap_39 w.params).In h₀ → News h₀ L s.heap news → Top Mine.hd1.view_39 (looseW Mine.hd1.view_39 []) mean mg mb h₀ → cs.kind = .function →
    dp + D < recursionLimit → un + U < cLine → (∀ (v : Value) (h' : Heap) (tk' : Nat), R v → Fr h₀ L h' m → News h₀ L h' news → Q v { s with heap := h', toks := tk' }) →
      wpAny (model PySem.Challenge.rw_bd6013_01.row.prog w) (ktrTop dp un gd cn cs L a ccd cl outer) (call (.ref f) vs) Q E s
theorem cl_use {D U : Nat} {f : Addr} {vs : List Value} {R : Value → Prop} {w : World} {mean : ExcName → Option Value} {mg mb : Str → Option Value} {dp un : Nat} {gd : Option (List Code)} {cn : Str} {cs : Scope} {a : Addr} {ccd : Value} {cl : List (Str × Addr)} {outer : List Env} {A₀ : Around} {base h₀ : Heap} {L : Addr} {m : Str → Option Value} {news : List (Addr × Obj)} {s : Shared} {Q E : Value → Shared → Prop}
    (C : Cl D U f vs R) (B : Below A₀ base outer h₀) (F : Fr h₀ L s.heap m) (X : (Mine.hd1.heap_39 w.params).In h₀) (N : News h₀ L s.heap news) (T : Top Mine.hd1.view_39 (looseW Mine.hd1.view_39 []) mean mg mb h₀) (hk : cs.kind = .function)
    (hd : dp + D < recursionLimit) (hu : un + U < cLine) (ret : ∀ (v : Value) (h' : Heap) (tk' : Nat), R v → Fr h₀ L h' m → News h₀ L h' news → Q v { s with heap := h', toks := tk' }) :
      wpAny (model PySem.Challenge.rw_bd6013_01.row.prog w) (ktrTop dp un gd cn cs L a ccd cl outer) (call (.ref f) vs) Q E s :=
  C w mean mg mb dp un gd cn cs a ccd cl outer A₀ base h₀ L m news s Q E B F X N T hk hd hu ret
theorem cl_ret {R : Value → Prop} {h₀ h' : Heap} {L : Addr} {m : Str → Option Value} {news : List (Addr × Obj)} {s : Shared} {Q : Value → Shared → Prop} {v : Value} {tk' : Nat}
    (hret : ∀ (v : Value) (h' : Heap) (tk' : Nat), R v → Fr h₀ L h' m → News h₀ L h' news → Q v { s with heap := h', toks := tk' }) (e : R v) (F : Fr h₀ L h' m) (N : News h₀ L h' news) : Q v { s with heap := h', toks := tk' } := hret v h' tk' e F N
theorem cl_drop {h₀ h : Heap} {L : Addr} {p : Addr × Obj} {news : List (Addr × Obj)} (N : News h₀ L h (p :: news)) : News h₀ L h news := fun q hq => N q (.tail _ hq)
def IsI (P : Int → Prop) (v : Value) : Prop := ∃ (i : Int) (t : Tok), v = .int i t ∧ P i
def IsF (P : Int → Prop) (v : Value) : Prop := ∃ (i : Int) (t : Tok), v = .float (hf i) t ∧ P i
def IsB (b : Bool) (v : Value) : Prop := v = .bool b

theorem fillme : PySem.Challenge.rw_bd6013_01.prog = PySem.Challenge.rw_bd6013_01.prog ∧ Mine.hd1.heap_39 = Mine.hd1.heap_39 := by
  w_top off
  k_fill
  exact ⟨rfl, rfl⟩

section rules
variable {prog : Program} {w : World} {A : Around} {E : Value → Shared → Prop} {s : Shared} {Q : Value → Shared → Prop}
theorem my_floor {x : UInt64} {t : Tok} {q : Int} (hA : A.handled = none) (hx : Float64.isFinite x = true ∧ Flt.toInt Float64.floorOf x = q) (h : Q (.int q s.toks) { s with toks := s.toks + 1 }) :
    wpAny (model prog w) A (call (.builtin "math.floor") [.float x t]) Q E s :=
  Flt.call_floor_float hA (fun hn => absurd (Flt.not_nan_of_finite hx.1) (by rw [hn]; decide)) (fun hn => absurd (Flt.not_inf_of_finite hx.1) (by rw [hn]; decide)) (fun _ => hx.2 ▸ h)
end rules
theorem floor_19 {a : Int} (h0 : 0 ≤ a) (h1 : a ≤ 1000000000000) : Float64.isFinite (Float64.ofFrac (decide (a < 0) != decide ((19:Int) < 0)) a.natAbs (Int.natAbs 19)) = true ∧ Flt.toInt Float64.floorOf (Float64.ofFrac (decide (a < 0) != decide ((19:Int) < 0)) a.natAbs (Int.natAbs 19)) = a / 19 := by
  have e : (decide (a < 0) != decide ((19:Int) < 0)) = false := by rw [decide_eq_false (by omega)]; rfl
  have e2 : Int.natAbs 19 = 19 := rfl
  rw [e, e2]
  have h := floor_quot (n := a.natAbs) (d := 19) (q := a.natAbs / 19) (s := 5) (by decide) (by decide) (by decide) rfl (by omega)
  refine ⟨h.1, h.2.trans ?_⟩
  omega
theorem floor_25920 {a : Int} (h0 : 0 ≤ a) (h1 : a ≤ 1000000000000000) : Float64.isFinite (Float64.ofFrac (decide (a < 0) != decide ((25920:Int) < 0)) a.natAbs (Int.natAbs 25920)) = true ∧ Flt.toInt Float64.floorOf (Float64.ofFrac (decide (a < 0) != decide ((25920:Int) < 0)) a.natAbs (Int.natAbs 25920)) = a / 25920 := by
  have e : (decide (a < 0) != decide ((25920:Int) < 0)) = false := by rw [decide_eq_false (by omega)]; rfl
  have e2 : Int.natAbs 25920 = 25920 := rfl
  rw [e, e2]
  have h := floor_quot (n := a.natAbs) (d := 25920) (q := a.natAbs / 25920) (s := 15) (by decide) (by decide) (by decide) rfl (by omega)
  refine ⟨h.1, h.2.trans ?_⟩
  omega

theorem leap_ok (y : Int) (t : Tok) (h0 : 0 ≤ y) (h1 : y ≤ 2000000000) : Cl 1 8 49 [.int y t] (IsB (leapB y)) := by
  intro w mean mg mb dp un gd cn cs a ccd cl outer A₀ base h₀ L m news s Q E B F X N T hk hd hu hret
  refine wpAny_call ?_
  k_dflt cell_enter
  k_steps
  all_goals (refine cl_ret (Q := Q) hret ?_ (by k_asm) (by k_asm))
  all_goals (unfold leapB; rw [Int.fmod_eq_emod_of_nonneg _ (by omega)]; exact rfl)

local macro_rules | `(tactic| walk_at "call builtin:math.floor") => `(tactic| (
  (with_reducible show wpAny _ _ (call _ [Value.float _ _]) _ _ _);
  first
  | refine my_floor rfl (floor_19 (by omega) (by omega)) ?_
  | refine my_floor rfl (floor_25920 (by omega) (by omega)) ?_))
theorem d1_ok' (y : Int) (t : Tok) (h0 : 1 ≤ y) (h1 : y ≤ 2000000000) : Cl 1 8 63 [.int y t] (IsI (fun d => d = d1 y)) := by
  intro w mean mg mb dp un gd cn cs a ccd cl outer A₀ base h₀ L m news s Q E B F X N T hk hd hu hret
  refine wpAny_call ?_
  k_dflt cell_enter
  k_steps
  all_goals (refine cl_ret (Q := Q) hret ?_ (by k_asm) (by k_asm))
  all_goals (refine ⟨_, _, rfl, ?_⟩)
  all_goals (unfold d1 dd mo; simp only [decide_eq_true_eq, decide_eq_false_iff_not, Int.fmod_eq_emod_of_nonneg _ (show (0:Int) ≤ 7 by decide)] at *; split <;> omega)
local macro_rules | `(tactic| walk_at "call builtin:math.floor") => `(tactic| (
  (with_reducible show wpAny _ _ (call _ [Value.float _ _]) _ _ _);
  first
  | k_dflt (refine' my_floor (q := -13) ?a ?b ?_; (case a => rfl); (case b => decide +kernel))
  | k_dflt (refine' my_floor (q := -7) ?a ?b ?_; (case a => rfl); (case b => decide +kernel))))
theorem d1_ok0 (t : Tok) : Cl 1 8 63 [.int 0 t] (IsI (fun d => d = d1 0)) := by
  intro w mean mg mb dp un gd cn cs a ccd cl outer A₀ base h₀ L m news s Q E B F X N T hk hd hu hret
  refine wpAny_call ?_
  k_dflt cell_enter
  k_steps
  all_goals (refine cl_ret (Q := Q) hret ?_ (by k_asm) (by k_asm))
  all_goals (refine ⟨_, _, rfl, ?_⟩)
  all_goals first | decide +kernel | (exfalso; simp at *; done)
theorem d1_ok (y : Int) (t : Tok) (h0 : 0 ≤ y) (h1 : y ≤ 2000000000) : Cl 1 8 63 [.int y t] (IsI (fun d => d = d1 y)) := by
  by_cases h : y = 0
  · subst h; exact d1_ok0 t
  · exact d1_ok' y t (by omega) h1
end Mine
end

section
open PySem PySem.W PyProof.Rows
set_option Elab.async false
set_option maxRecDepth 100000 
set_option maxHeartbeats 8000000 
namespace Mine
theorem fillme2 : PySem.Challenge.rw_bd6013_01.prog = PySem.Challenge.rw_bd6013_01.prog ∧ Mine.hd1.heap_39 = Mine.hd1.heap_39 := by
  k_fill
  exact ⟨rfl, rfl⟩

section rules
variable {prog : Program} {w : World} {A : Around} {E : Value → Shared → Prop} {s : Shared} {Q : Value → Shared → Prop} {x y : UInt64} {t u : Tok} {n k l : Int}
theorem my_over (h : n.natAbs < 2 ^ 50) : ¬ Flt.Over n := by
  unfold Flt.Over
  have : (2 : Nat) ^ 50 < 2 ^ 1024 - 2 ^ 970 := by decide +kernel
  omega
theorem my_add_fi (hA : A.handled = none) (hx : x = hf k) (h0 : 0 < k) (h1 : k < 2 ^ 50) (h2 : 0 ≤ n) (h3 : n < 2 ^ 50) (h : Q (.float (hf (k + 2 * n)) s.toks) { s with toks := s.toks + 1 }) :
    wpAny (model prog w) A (binaryOp .Add (.float x t) (.int n u)) Q E s := by
  subst hx
  refine add_fi_sharp hA (fun h => absurd h ?_) (fun _ => ?_)
  · have : (2 : Nat) ^ 50 < 2 ^ 1024 - 2 ^ 970 := by decide +kernel
    omega
  · rw [ofInt_hf (by omega), add_hf (by omega) (by omega) (by omega) (by omega)]; exact h
theorem my_iadd_fi (hA : A.handled = none) (hx : x = hf k) (h0 : 0 < k) (h1 : k < 2 ^ 50) (h2 : 0 ≤ n) (h3 : n < 2 ^ 50) (h : Q (.float (hf (k + 2 * n)) s.toks) { s with toks := s.toks + 1 }) :
    wpAny (model prog w) A (inplaceOp .Add (.float x t) (.int n u)) Q E s := by
  subst hx
  refine Flt.iadd_fi hA (fun h => absurd h (my_over (by omega))) (fun _ => ?_)
  rw [ofInt_hf (by omega), add_hf (by omega) (by omega) (by omega) (by omega)]; exact h
theorem my_add_if (hA : A.handled = none) (hx : x = hf k) (h0 : 0 < k) (h1 : k < 2 ^ 50) (h2 : 0 ≤ n) (h3 : n < 2 ^ 50) (h : Q (.float (hf (2 * n + k)) s.toks) { s with toks := s.toks + 1 }) :
    wpAny (model prog w) A (binaryOp .Add (.int n u) (.float x t)) Q E s := by
  subst hx
  refine add_if_sharp hA (fun h => absurd h ?_) (fun _ => ?_)
  · have : (2 : Nat) ^ 50 < 2 ^ 1024 - 2 ^ 970 := by decide +kernel
    omega
  · rw [ofInt_hf (by omega), add_hf (by omega) (by omega) (by omega) (by omega)]; exact h
theorem my_sub_ff (hx : x = hf k) (hy : y = hf l) (h0 : 0 < k) (h1 : k < 2 ^ 50) (h2 : 0 < l) (h3 : l < 2 ^ 50) (h4 : k ≠ l) (h : Q (.float (hf (k - l)) s.toks) { s with toks := s.toks + 1 }) :
    wpAny (model prog w) A (binaryOp .Sub (.float x t) (.float y u)) Q E s := by
  subst hx hy
  refine sub_float ?_
  rw [sub_hf (by omega) (by omega) (by omega) (by omega)]; exact h
theorem my_int_f (hA : A.handled = none) (hx : x = hf k) (h0 : 0 ≤ k) (h1 : k < 2 ^ 50) (h : Q (.int (k / 2) s.toks) { s with toks := s.toks + 1 }) :
    wpAny (model prog w) A (call (.type "int") [.float x t]) Q E s := by
  subst hx
  have hf := hf_finite (k := k) (by omega)
  refine Flt.call_int_float3 hA (fun hn => absurd (Flt.not_nan_of_finite hf) (by rw [hn]; decide)) (fun hn => absurd (Flt.not_inf_of_finite hf) (by rw [hn]; decide)) (fun _ => ?_)
  rw [trunc_hf h0 (by omega)]; exact h
theorem my_mul_2f (hA : A.handled = none) (hx : x = hf k) (h0 : 0 ≤ k) (h1 : k < 2 ^ 49) (h : Q (.float (hf (2 * k)) s.toks) { s with toks := s.toks + 1 }) :
    wpAny (model prog w) A (binaryOp .Mult (.int 2 u) (.float x t)) Q E s := by
  subst hx
  refine mul_if_sharp hA (fun h => absurd h ?_) (fun _ => ?_)
  · have : (2 : Nat) ^ 50 < 2 ^ 1024 - 2 ^ 970 := by decide +kernel
    have e : Int.natAbs 2 = 2 := rfl
    omega
  · rw [mul2_hf (by omega)]; exact h
theorem my_mod_fi (hA : A.handled = none) (hx : x = hf k) (h0 : 0 ≤ k) (h1 : k < 2 ^ 50) (h2 : 0 < n) (h3 : n < 2 ^ 50) (h : Q (.float (hf (k % (2 * n))) s.toks) { s with toks := s.toks + 1 }) :
    wpAny (model prog w) A (binaryOp .Mod (.float x t) (.int n u)) Q E s := by
  subst hx
  refine Flt.mod_fi hA (fun h => absurd h (my_over (by omega))) (fun h => absurd h (by omega)) (fun _ _ => ?_)
  rw [mod_hf h0 (by omega) h2 (by omega)]; exact h
theorem cmp_eq_hf (h1 : k.natAbs < 2 ^ 50) : (Float64.cmpInt (hf k) n == some Ordering.eq) = decide (k = 2 * n) := by
  rw [cmpInt_hf (by omega)]
  by_cases h : k = 2 * n
  · rw [h]; simp
  · rw [decide_eq_false h]
    rcases Int.lt_or_gt_of_ne h with h | h
    · rw [Int.compare_eq_lt.mpr h]; rfl
    · rw [Int.compare_eq_gt.mpr h]; rfl
theorem my_ne_fi (hx : x = hf k) (h1 : k.natAbs < 2 ^ 50) (h : Q (.bool (decide (k ≠ 2 * n))) s) :
    wpAny (model prog w) A (compareOp .NotEq (.float x t) (.int n u)) Q E s := by
  subst hx
  refine ne_fi ?_
  rw [bne, cmp_eq_hf h1, ← decide_not]; exact h
theorem my_eq_fi (hx : x = hf k) (h1 : k.natAbs < 2 ^ 50) (h : Q (.bool (decide (k = 2 * n))) s) :
    wpAny (model prog w) A (compareOp .Eq (.float x t) (.int n u)) Q E s := by
  subst hx
  refine eq_fi ?_
  rw [cmp_eq_hf h1]; exact h
end rules
local macro_rules | `(tactic| walk_at "binaryOp Add float int") => `(tactic| k_dflt (refine' my_add_fi ?a ?x ?p0 ?p1 ?p2 ?p3 ?_; (case a => rfl); (case x => first | exact rfl | exact epoch_hf | exact half_hf); (case p0 => omega); (case p1 => omega); (case p2 => omega); (case p3 => omega)))
local macro_rules | `(tactic| walk_at "inplaceOp Add float int") => `(tactic| k_dflt (refine' my_iadd_fi ?a ?x ?p0 ?p1 ?p2 ?p3 ?_; (case a => rfl); (case x => first | exact rfl | exact epoch_hf | exact half_hf); (case p0 => omega); (case p1 => omega); (case p2 => omega); (case p3 => omega)))
local macro_rules | `(tactic| walk_at "binaryOp Add int float") => `(tactic| k_dflt (refine' my_add_if ?a ?x ?p0 ?p1 ?p2 ?p3 ?_; (case a => rfl); (case x => first | exact rfl | exact epoch_hf | exact half_hf); (case p0 => omega); (case p1 => omega); (case p2 => omega); (case p3 => omega)))
local macro_rules | `(tactic| walk_at "binaryOp Sub float float") => `(tactic| k_dflt (refine' my_sub_ff ?x ?y ?p0 ?p1 ?p2 ?p3 ?p4 ?_; (case x => exact rfl); (case y => exact rfl); (case p0 => omega); (case p1 => omega); (case p2 => omega); (case p3 => omega); (case p4 => omega)))
local macro_rules | `(tactic| walk_at "call type:int") => `(tactic| ((with_reducible show wpAny _ _ (call _ [Value.float _ _]) _ _ _); k_dflt (refine' my_int_f ?a ?x ?p0 ?p1 ?_; (case a => rfl); (case x => exact rfl); (case p0 => omega); (case p1 => omega))))
local macro_rules | `(tactic| walk_at "binaryOp Mult int float") => `(tactic| k_dflt (refine' my_mul_2f ?a ?x ?p0 ?p1 ?_; (case a => rfl); (case x => exact rfl); (case p0 => omega); (case p1 => omega)))
local macro_rules | `(tactic| walk_at "binaryOp Mod float int") => `(tactic| k_dflt (refine' my_mod_fi ?a ?x ?p0 ?p1 ?p2 ?p3 ?_; (case a => rfl); (case x => exact rfl); (case p0 => omega); (case p1 => omega); (case p2 => omega); (case p3 => omega)))
local macro_rules | `(tactic| walk_at "compareOp NotEq float int") => `(tactic| k_dflt (refine' my_ne_fi ?x ?p0 ?_; (case x => exact rfl); (case p0 => omega)))
local macro_rules | `(tactic| walk_at "compareOp Eq float int") => `(tactic| k_dflt (refine' my_eq_fi ?x ?p0 ?_; (case x => exact rfl); (case p0 => omega)))

theorem d1_bd {y : Int} (h0 : 0 ≤ y) (h1 : y ≤ 2000000000) : -1000 ≤ d1 y ∧ d1 y ≤ 1000000000000 ∧ (1 ≤ y → 0 ≤ d1 y) := by
  unfold d1
  rw [dd_eq]
  unfold mo
  split <;> omega
theorem d2_bd (y : Int) : 0 ≤ d2 y ∧ d2 y ≤ 2 := by
  unfold d2; (repeat' split) <;> omega
theorem d1_okb (y : Int) (t : Tok) (h0 : 0 ≤ y) (h1 : y ≤ 2000000000) : Cl 1 8 63 [.int y t] (IsI (fun d => d = d1 y ∧ -1000 ≤ d ∧ d ≤ 1000000000000 ∧ (1 ≤ y → 0 ≤ d))) := by
  have h := d1_ok y t h0 h1
  intro w mean mg mb dp un gd cn cs a ccd cl outer A₀ base h₀ L m news s Q E B F X N T hk hd hu hret
  refine h w mean mg mb dp un gd cn cs a ccd cl outer A₀ base h₀ L m news s Q E B F X N T hk hd hu (fun v h' tk' hv F' N' => hret v h' tk' ?_ F' N')
  obtain ⟨d, t', rfl, hd'⟩ := hv
  have hd' : d = d1 y := hd'
  subst hd'
  exact ⟨_, _, rfl, rfl, d1_bd h0 h1⟩
local macro_rules | `(tactic| walk_at "call ref") => `(tactic| (k_here; k_dflt (first
  | (refine' cl_use (d1_okb _ _ ?p0 ?p1) ?k1 ?k2 ?k3 ?k4 ?k5 ?kK ?kd ?ku ?_; (case p0 => first | omega | assumption); (case p1 => first | omega | assumption); (case k1 => k_asm); (case k2 => k_asm); (case k3 => k_asm); (case k4 => k_asm); (case k5 => k_asm); (case kK => first | exact rfl | assumption); (case kd => ktr_room); (case ku => ktr_units); intro v9 h9 tk9 hv9 F9 N9; obtain ⟨d9, t9, hv9, hd9⟩ := hv9; subst hv9; (try dsimp only at hd9); (try dsimp only); (try k_fold); (try k_sweep))
  | (refine' cl_use (leap_ok _ _ ?p0 ?p1) ?k1 ?k2 ?k3 ?k4 ?k5 ?kK ?kd ?ku ?_; (case p0 => first | omega | assumption); (case p1 => first | omega | assumption); (case k1 => k_asm); (case k2 => k_asm); (case k3 => k_asm); (case k4 => k_asm); (case k5 => k_asm); (case kK => first | exact rfl | assumption); (case kd => ktr_room); (case ku => ktr_units); intro v9 h9 tk9 hv9 F9 N9; subst hv9; (try dsimp only); (try k_fold); (try k_sweep)))))

theorem d2_ok (y : Int) (t : Tok) (h0 : 1 ≤ y) (h1 : y ≤ 1900000000) : Cl 2 16 70 [.int y t] (IsI (fun d => d = d2 y ∧ 0 ≤ d ∧ d ≤ 2)) := by
  intro w mean mg mb dp un gd cn cs a ccd cl outer A₀ base h₀ L m news s Q E B F X N T hk hd hu hret
  refine wpAny_call ?_
  k_dflt cell_enter
  k_steps
  all_goals (refine cl_ret (Q := Q) hret ?_ (by k_asm) (by first | k_asm | (refine' cb_drop ?cbN ?cbS; (case cbN => assumption); (case cbS => kcj_all))))
  all_goals (refine ⟨_, _, rfl, ?_⟩)
  all_goals (simp only [decide_eq_true_eq, decide_eq_false_iff_not] at *; have hb := d2_bd y; unfold d2 at *; (repeat' split) <;> omega)
theorem ym_ok (y : Int) (t : Tok) (h0 : 1 ≤ y) (h1 : y ≤ 1900000000) : Cl 2 16 56 [.int y t] (IsI (fun d => d = if leapB y = true then 13 else 12)) := by
  intro w mean mg mb dp un gd cn cs a ccd cl outer A₀ base h₀ L m news s Q E B F X N T hk hd hu hret
  refine wpAny_call ?_
  k_dflt cell_enter
  k_steps
  all_goals (refine cl_ret (Q := Q) hret ?_ (by k_asm) (by first | k_asm | (refine' cb_drop ?cbN ?cbS; (case cbN => assumption); (case cbS => kcj_all))))
  all_goals (refine ⟨_, _, rfl, ?_⟩)
  all_goals (dsimp only; simp [*]; done)
local macro_rules | `(tactic| walk_at "call ref") => `(tactic| (k_here; k_dflt (first
  | (refine' cl_use (d2_ok _ _ ?p0 ?p1) ?k1 ?k2 ?k3 ?k4 ?k5 ?kK ?kd ?ku ?_; (case p0 => first | omega | assumption); (case p1 => first | omega | assumption); (case k1 => k_asm); (case k2 => k_asm); (case k3 => k_asm); (case k4 => k_asm); (case k5 => k_asm); (case kK => first | exact rfl | assumption); (case kd => ktr_room); (case ku => ktr_units); intro v9 h9 tk9 hv9 F9 N9; obtain ⟨d9, t9, hv9, hd9⟩ := hv9; subst hv9; (try dsimp only at hd9); (try dsimp only); (try k_fold); (try k_sweep))
  | (refine' cl_use (ym_ok _ _ ?p0 ?p1) ?k1 ?k2 ?k3 ?k4 ?k5 ?kK ?kd ?ku ?_; (case p0 => first | omega | assumption); (case p1 => first | omega | assumption); (case k1 => k_asm); (case k2 => k_asm); (case k3 => k_asm); (case k4 => k_asm); (case k5 => k_asm); (case kK => first | exact rfl | assumption); (case kd => ktr_room); (case ku => ktr_units); intro v9 h9 tk9 hv9 F9 N9; obtain ⟨d9, t9, hv9, hd9⟩ := hv9; subst hv9; (try dsimp only at hd9); (try dsimp only); (try k_fold); (try k_sweep)))))

theorem jd7_ok (y : Int) (t t1 t2 : Tok) (h0 : 1 ≤ y) (h1 : y ≤ 1800000000) : Cl 3 24 98 [.int y t, .int 7 t1, .int 1 t2] (IsF (fun k => k = 2 * (347997 + ny y) + 1 ∧ 0 < k ∧ k < 2 ^ 45)) := by
  intro w mean mg mb dp un gd cn cs a ccd cl outer A₀ base h₀ L m news s Q E B F X N T hk hd hu hret
  refine wpAny_call ?_
  k_dflt cell_enter
  k_steps
  all_goals (refine cl_ret (Q := Q) hret ?_ (by k_asm) (by first | k_asm | (refine' cb_drop ?cbN ?cbS; (case cbN => assumption); (case cbS => kcj_all))))
  all_goals (refine ⟨_, _, rfl, ?_⟩)
  all_goals (dsimp only; unfold ny; omega)
theorem yd_bd (y : Int) : 353 ≤ ny (y + 1) - ny y ∧ ny (y + 1) - ny y ≤ 385 := by
  have := kind y
  unfold Kind at this
  omega
local macro_rules | `(tactic| walk_at "call ref") => `(tactic| (k_here; k_dflt (first
  | (refine' cl_use (jd7_ok _ _ _ _ ?p0 ?p1) ?k1 ?k2 ?k3 ?k4 ?k5 ?kK ?kd ?ku ?_; (case p0 => first | omega | assumption); (case p1 => first | omega | assumption); (case k1 => k_asm); (case k2 => k_asm); (case k3 => k_asm); (case k4 => k_asm); (case k5 => k_asm); (case kK => first | exact rfl | assumption); (case kd => ktr_room); (case ku => ktr_units); intro v9 h9 tk9 hv9 F9 N9; obtain ⟨d9, t9, hv9, hd9⟩ := hv9; subst hv9; (try dsimp only at hd9); (try dsimp only); (try k_fold); (try k_sweep)))))

theorem yd_ok (y : Int) (t : Tok) (h0 : 1 ≤ y) (h1 : y ≤ 1700000000) : Cl 4 32 77 [.int y t] (IsF (fun k => k = 2 * (ny (y + 1) - ny y) ∧ 706 ≤ k ∧ k ≤ 770)) := by
  have hb := yd_bd y
  intro w mean mg mb dp un gd cn cs a ccd cl outer A₀ base h₀ L m news s Q E B F X N T hk hd hu hret
  refine wpAny_call ?_
  k_dflt cell_enter
  k_steps
  all_goals (refine cl_ret (Q := Q) hret ?_ (by k_asm) (by first | k_asm | (refine' cb_drop ?cbN ?cbS; (case cbN => assumption); (case cbS => kcj_all))))
  all_goals (refine ⟨_, _, rfl, ?_⟩)
  all_goals (dsimp only; omega)
local macro_rules | `(tactic| walk_at "call ref") => `(tactic| (k_here; k_dflt (first
  | (refine' cl_use (yd_ok _ _ ?p0 ?p1) ?k1 ?k2 ?k3 ?k4 ?k5 ?kK ?kd ?ku ?_; (case p0 => first | omega | assumption); (case p1 => first | omega | assumption); (case k1 => k_asm); (case k2 => k_asm); (case k3 => k_asm); (case k4 => k_asm); (case k5 => k_asm); (case kK => first | exact rfl | assumption); (case kd => ktr_room); (case ku => ktr_units); intro v9 h9 tk9 hv9 F9 N9; obtain ⟨d9, t9, hv9, hd9⟩ := hv9; subst hv9; (try dsimp only at hd9); (try dsimp only); (try k_fold); (try k_sweep)))))

theorem ml_ok (y i : Int) (t t1 : Tok) (h0 : 1 ≤ y) (h1 : y ≤ 1700000000) (h2 : 1 ≤ i) (h3 : i ≤ 13) : Cl 5 40 84 [.int y t, .int i t1] (IsI (fun d => d = ml y i ∧ 29 ≤ d ∧ d ≤ 30)) := by
  intro w mean mg mb dp un gd cn cs a ccd cl outer A₀ base h₀ L m news s Q E B F X N T hk hd hu hret
  refine wpAny_call ?_
  k_dflt cell_enter
  k_steps
  all_goals (refine cl_ret (Q := Q) hret ?_ (by k_asm) (by first | k_asm | (refine' cb_drop ?cbN ?cbS; (case cbN => assumption); (case cbS => kcj_all))))
  all_goals (refine ⟨_, _, rfl, ?_⟩)
  all_goals (dsimp only; simp only [List.any_cons, List.any_nil, Bool.or_false, Bool.or_eq_true, beq_iff_eq, Bool.or_eq_false_iff, beq_eq_false_iff_ne] at *; unfold ml; (repeat' split) <;> first | omega | (simp_all; done) | (simp_all; omega))
local macro_rules | `(tactic| walk_at "call ref") => `(tactic| (k_here; k_dflt (first
  | (refine' cl_use (ml_ok _ _ _ _ ?p0 ?p1 ?p2 ?p3) ?k1 ?k2 ?k3 ?k4 ?k5 ?kK ?kd ?ku ?_; (case p0 => first | omega | assumption); (case p1 => first | omega | assumption); (case p2 => first | omega | assumption); (case p3 => first | omega | assumption); (case k1 => k_asm); (case k2 => k_asm); (case k3 => k_asm); (case k4 => k_asm); (case k5 => k_asm); (case kK => first | exact rfl | assumption); (case kd => ktr_room); (case ku => ktr_units); intro v9 h9 tk9 hv9 F9 N9; obtain ⟨d9, t9, hv9, hd9⟩ := hv9; subst hv9; (try dsimp only at hd9); (try dsimp only); (try k_fold); (try k_sweep)))))

theorem md_ok (y i : Int) (t t1 : Tok) (h0 : 1 ≤ y) (h1 : y ≤ 1700000000) (h2 : 1 ≤ i) (h3 : i ≤ 13) : Cl 6 48 91 [.int y t, .int i t1] (IsI (fun d => d = ml y i ∧ 29 ≤ d ∧ d ≤ 30)) := by
  intro w mean mg mb dp un gd cn cs a ccd cl outer A₀ base h₀ L m news s Q E B F X N T hk hd hu hret
  refine wpAny_call ?_
  k_dflt cell_enter
  k_steps
  all_goals (refine cl_ret (Q := Q) hret ?_ (by k_asm) (by first | k_asm | (refine' cb_drop ?cbN ?cbS; (case cbN => assumption); (case cbS => kcj_all))))
  all_goals (refine ⟨_, _, rfl, ?_⟩)
  all_goals (dsimp only; omega)
end Mine
end

section
open PySem PySem.W PyProof.Rows
set_option Elab.async false
set_option maxRecDepth 100000 
set_option maxHeartbeats 8000000 
namespace Mine
theorem fillme3 : PySem.Challenge.rw_bd6013_01.prog = PySem.Challenge.rw_bd6013_01.prog ∧ Mine.hd1.heap_39 = Mine.hd1.heap_39 := by
  k_fill
  exact ⟨rfl, rfl⟩
local macro_rules | `(tactic| walk_at "binaryOp Add float int") => `(tactic| k_dflt (refine' my_add_fi ?a ?x ?p0 ?p1 ?p2 ?p3 ?_; (case a => rfl); (case x => first | exact rfl | exact epoch_hf | exact half_hf); (case p0 => omega); (case p1 => omega); (case p2 => omega); (case p3 => omega)))
local macro_rules | `(tactic| walk_at "inplaceOp Add float int") => `(tactic| k_dflt (refine' my_iadd_fi ?a ?x ?p0 ?p1 ?p2 ?p3 ?_; (case a => rfl); (case x => first | exact rfl | exact epoch_hf | exact half_hf); (case p0 => omega); (case p1 => omega); (case p2 => omega); (case p3 => omega)))
local macro_rules | `(tactic| walk_at "binaryOp Add int float") => `(tactic| k_dflt (refine' my_add_if ?a ?x ?p0 ?p1 ?p2 ?p3 ?_; (case a => rfl); (case x => first | exact rfl | exact epoch_hf | exact half_hf); (case p0 => omega); (case p1 => omega); (case p2 => omega); (case p3 => omega)))
local macro_rules | `(tactic| walk_at "binaryOp Sub float float") => `(tactic| k_dflt (refine' my_sub_ff ?x ?y ?p0 ?p1 ?p2 ?p3 ?p4 ?_; (case x => exact rfl); (case y => exact rfl); (case p0 => omega); (case p1 => omega); (case p2 => omega); (case p3 => omega); (case p4 => omega)))
local macro_rules | `(tactic| walk_at "call type:int") => `(tactic| ((with_reducible show wpAny _ _ (call _ [Value.float _ _]) _ _ _); k_dflt (refine' my_int_f ?a ?x ?p0 ?p1 ?_; (case a => rfl); (case x => exact rfl); (case p0 => omega); (case p1 => omega))))
local macro_rules | `(tactic| walk_at "binaryOp Mult int float") => `(tactic| k_dflt (refine' my_mul_2f ?a ?x ?p0 ?p1 ?_; (case a => rfl); (case x => exact rfl); (case p0 => omega); (case p1 => omega)))
local macro_rules | `(tactic| walk_at "binaryOp Mod float int") => `(tactic| k_dflt (refine' my_mod_fi ?a ?x ?p0 ?p1 ?p2 ?p3 ?_; (case a => rfl); (case x => exact rfl); (case p0 => omega); (case p1 => omega); (case p2 => omega); (case p3 => omega)))
local macro_rules | `(tactic| walk_at "compareOp NotEq float int") => `(tactic| k_dflt (refine' my_ne_fi ?x ?p0 ?_; (case x => exact rfl); (case p0 => omega)))
local macro_rules | `(tactic| walk_at "compareOp Eq float int") => `(tactic| k_dflt (refine' my_eq_fi ?x ?p0 ?_; (case x => exact rfl); (case p0 => omega)))
local macro_rules | `(tactic| walk_at "call ref") => `(tactic| (k_here; k_dflt (first
  | (refine' cl_use (md_ok _ _ _ _ ?p0 ?p1 ?p2 ?p3) ?k1 ?k2 ?k3 ?k4 ?k5 ?kK ?kd ?ku ?_; (case p0 => first | omega | assumption); (case p1 => first | omega | assumption); (case p2 => first | omega | assumption); (case p3 => first | omega | assumption); (case k1 => k_asm); (case k2 => k_asm); (case k3 => k_asm); (case k4 => k_asm); (case k5 => k_asm); (case kK => first | exact rfl | assumption); (case kd => ktr_room); (case ku => ktr_units); intro v9 h9 tk9 hv9 F9 N9; obtain ⟨d9, t9, hv9, hd9⟩ := hv9; subst hv9; (try dsimp only at hd9); (try dsimp only); (try k_fold); (try k_sweep))
  | (refine' cl_use (d1_okb _ _ ?p0 ?p1) ?k1 ?k2 ?k3 ?k4 ?k5 ?kK ?kd ?ku ?_; (case p0 => first | omega | assumption); (case p1 => first | omega | assumption); (case k1 => k_asm); (case k2 => k_asm); (case k3 => k_asm); (case k4 => k_asm); (case k5 => k_asm); (case kK => first | exact rfl | assumption); (case kd => ktr_room); (case ku => ktr_units); intro v9 h9 tk9 hv9 F9 N9; obtain ⟨d9, t9, hv9, hd9⟩ := hv9; subst hv9; (try dsimp only at hd9); (try dsimp only); (try k_fold); (try k_sweep))
  | (refine' cl_use (d2_ok _ _ ?p0 ?p1) ?k1 ?k2 ?k3 ?k4 ?k5 ?kK ?kd ?ku ?_; (case p0 => first | omega | assumption); (case p1 => first | omega | assumption); (case k1 => k_asm); (case k2 => k_asm); (case k3 => k_asm); (case k4 => k_asm); (case k5 => k_asm); (case kK => first | exact rfl | assumption); (case kd => ktr_room); (case ku => ktr_units); intro v9 h9 tk9 hv9 F9 N9; obtain ⟨d9, t9, hv9, hd9⟩ := hv9; subst hv9; (try dsimp only at hd9); (try dsimp only); (try k_fold); (try k_sweep))
  | (refine' cl_use (ym_ok _ _ ?p0 ?p1) ?k1 ?k2 ?k3 ?k4 ?k5 ?kK ?kd ?ku ?_; (case p0 => first | omega | assumption); (case p1 => first | omega | assumption); (case k1 => k_asm); (case k2 => k_asm); (case k3 => k_asm); (case k4 => k_asm); (case k5 => k_asm); (case kK => first | exact rfl | assumption); (case kd => ktr_room); (case ku => ktr_units); intro v9 h9 tk9 hv9 F9 N9; obtain ⟨d9, t9, hv9, hd9⟩ := hv9; subst hv9; (try dsimp only at hd9); (try dsimp only); (try k_fold); (try k_sweep)))))

local macro_rules | `(tactic| walk_at "pyIter ref") => `(tactic| ((with_reducible show wpAny _ _ (pyIter (Value.ref _)) (fun it s₂ => LoopAtV _ _ _ _ _ _ _ _ _ it s₂) _ _); (with_reducible rename Yr _ => yr9); (rename Fr _ _ _ _ => lF'); (rename News _ _ _ _ => lN'); (rename IsRange _ _ _ _ _ _ _ _ => rgX); (with_unfolding_all refine' iter_jd (y := Str.ofString "jd") yr9 (by rfl) rgX ?hs lF' lN' (by rfl) (fun i' t' c' t'' h' tk' I' hi' hc' hs0' hs1' F' N' => ?_) (fun u' c' t' h' tk' hc' hs0' hs1' F' N' => ?_)); (case hs => exact small_one (by omega) (by omega) (by omega) (by omega)); all_goals (clear lF' lN'); all_goals (try k_fold)))
local macro_rules | `(tactic| walk_at "FPost") => `(tactic| (dsimp only [FPost]))
local macro_rules | `(tactic| walk_at "FEnd") => `(tactic| k_dflt (refine' FEnd.intro ?F ?N ?a ?b ?c; (case F => assumption); (case N => assumption); (case a => with_unfolding_all rfl); (case b => (try dsimp only); omega); (case c => k_same2)))
/-- the days of the months that stand ahead of month i -/
@[irreducible] def bef (y i : Int) : Int := if i < 7 then sm y 7 ((if leapB y = true then (13 : Int) else 12) + 1 - 7).toNat + sm y 1 (i - 1).toNat else sm y 7 (i - 7).toNat
theorem jd_ok (y i : Int) (t t1 t2 : Tok) (h0 : 1 ≤ y) (h1 : y ≤ 1700000000) (h2 : 1 ≤ i) (h3 : i ≤ 13) : Cl 7 56 98 [.int y t, .int i t1, .int 1 t2] (IsF (fun k => k = 2 * (347997 + ny y + bef y i) + 1 ∧ 0 < k ∧ k < 2 ^ 46)) := by
  have yr := Yr.mk (y := y)
  intro w mean mg mb dp un gd cn cs a ccd cl outer A₀ base h₀ L m news s Q E B F X N T hk hd hu hret
  refine wpAny_call ?_
  k_dflt cell_enter
  k_steps
  all_goals (refine cl_ret (Q := Q) hret ?_ (by k_asm) (by first | k_asm | (refine' cb_drop ?cbN ?cbS; (case cbN => assumption); (case cbS => kcj_all))))
  all_goals (refine ⟨_, _, rfl, ?_⟩)
  all_goals (dsimp only; unfold ny bef)
  all_goals (cases hlp : leapB y <;> simp only [hlp, decide_eq_true_eq, decide_eq_false_iff_not, Bool.false_eq_true, if_true, if_false, reduceIte] at * <;> subst_vars <;> split <;> omega)
end Mine
end

section
open PySem PySem.W PyProof.Rows
set_option Elab.async false
set_option maxRecDepth 100000 
set_option maxHeartbeats 8000000 
namespace Mine
theorem fillme4 : PySem.Challenge.rw_bd6013_01.prog = PySem.Challenge.rw_bd6013_01.prog ∧ Mine.hd1.heap_39 = Mine.hd1.heap_39 := by
  k_fill
  exact ⟨rfl, rfl⟩
local macro_rules | `(tactic| walk_at "binaryOp Add float int") => `(tactic| k_dflt (refine' my_add_fi ?a ?x ?p0 ?p1 ?p2 ?p3 ?_; (case a => rfl); (case x => first | exact rfl | exact epoch_hf | exact half_hf); (case p0 => omega); (case p1 => omega); (case p2 => omega); (case p3 => omega)))
local macro_rules | `(tactic| walk_at "inplaceOp Add float int") => `(tactic| k_dflt (refine' my_iadd_fi ?a ?x ?p0 ?p1 ?p2 ?p3 ?_; (case a => rfl); (case x => first | exact rfl | exact epoch_hf | exact half_hf); (case p0 => omega); (case p1 => omega); (case p2 => omega); (case p3 => omega)))
local macro_rules | `(tactic| walk_at "binaryOp Add int float") => `(tactic| k_dflt (refine' my_add_if ?a ?x ?p0 ?p1 ?p2 ?p3 ?_; (case a => rfl); (case x => first | exact rfl | exact epoch_hf | exact half_hf); (case p0 => omega); (case p1 => omega); (case p2 => omega); (case p3 => omega)))
local macro_rules | `(tactic| walk_at "binaryOp Sub float float") => `(tactic| k_dflt (refine' my_sub_ff ?x ?y ?p0 ?p1 ?p2 ?p3 ?p4 ?_; (case x => exact rfl); (case y => exact rfl); (case p0 => omega); (case p1 => omega); (case p2 => omega); (case p3 => omega); (case p4 => omega)))
local macro_rules | `(tactic| walk_at "call type:int") => `(tactic| ((with_reducible show wpAny _ _ (call _ [Value.float _ _]) _ _ _); k_dflt (refine' my_int_f ?a ?x ?p0 ?p1 ?_; (case a => rfl); (case x => exact rfl); (case p0 => omega); (case p1 => omega))))
local macro_rules | `(tactic| walk_at "binaryOp Mult int float") => `(tactic| k_dflt (refine' my_mul_2f ?a ?x ?p0 ?p1 ?_; (case a => rfl); (case x => exact rfl); (case p0 => omega); (case p1 => omega)))
local macro_rules | `(tactic| walk_at "binaryOp Mod float int") => `(tactic| k_dflt (refine' my_mod_fi ?a ?x ?p0 ?p1 ?p2 ?p3 ?_; (case a => rfl); (case x => exact rfl); (case p0 => omega); (case p1 => omega); (case p2 => omega); (case p3 => omega)))
local macro_rules | `(tactic| walk_at "compareOp NotEq float int") => `(tactic| k_dflt (refine' my_ne_fi ?x ?p0 ?_; (case x => exact rfl); (case p0 => omega)))
local macro_rules | `(tactic| walk_at "compareOp Eq float int") => `(tactic| k_dflt (refine' my_eq_fi ?x ?p0 ?_; (case x => exact rfl); (case p0 => omega)))

/-- the same with an empty ledger -/
def Cl0 (D U : Nat) (f : Addr) (vs : List Value) (R : Value → Prop) : Prop :=
  ∀ (w : World) (mean : ExcName → Option Value) (mg mb : Str → Option Value) (dp un : Nat) (gd : Option (List Code)) (cn : Str) (cs : Scope) (a : Addr) (ccd : Value) (cl : List (Str × Addr)) (outer : List Env) (A₀ : Around) (base h₀ : Heap) (L : Addr) (m : Str → Option Value) (s : Shared) (Q E : Value → Shared → Prop),
    Below A₀ base outer h₀ → Fr h₀ L s.heap m → (Mine.hd1.heap_39 w.params).In h₀ → News h₀ L s.heap [] → Top Mine.hd1.view_39 (looseW Mine.hd1.view_39 []) mean mg mb h₀ → cs.kind = .function →
    dp + D < recursionLimit → un + U < cLine → (∀ (v : Value) (h' : Heap) (tk' : Nat), R v → Fr h₀ L h' m → News h₀ L h' [] → Q v { s with heap := h', toks := tk' }) →
      wpAny (model PySem.Challenge.rw_bd6013_01.row.prog w) (ktrTop dp un gd cn cs L a ccd cl outer) (call (.ref f) vs) Q E s
theorem number_ok (k : Int) (t : Tok) (h0 : 0 < k) (h1 : k < 2 ^ 46) : Cl 1 8 161 [.float (hf k) t] (IsI (fun d => d = (k + 1) / 2)) := by
  intro w mean mg mb dp un gd cn cs a ccd cl outer A₀ base h₀ L m news s Q E B F X N T hk hd hu hret
  refine wpAny_call ?_
  k_dflt cell_enter
  k_steps
  all_goals (refine cl_ret (Q := Q) hret ?_ (by k_asm) (by first | k_asm | (refine' cb_drop ?cbN ?cbS; (case cbN => assumption); (case cbS => kcj_all))))
  all_goals (refine ⟨_, _, rfl, ?_⟩)
  all_goals (dsimp only; rw [Int.fdiv_eq_ediv_of_nonneg _ (by omega)]; omega)
theorem behind_ok (n i : Int) (t t1 : Tok) (h0 : 0 ≤ n) (h1 : n < 2 ^ 46) (h2 : 0 ≤ i) (h3 : i < 2 ^ 46) : Cl 1 8 168 [.int n t, .int i t1] (IsI (fun d => d = (n - 347998) * 25920 - (5604 + i * 765433))) := by
  intro w mean mg mb dp un gd cn cs a ccd cl outer A₀ base h₀ L m news s Q E B F X N T hk hd hu hret
  refine wpAny_call ?_
  k_dflt cell_enter
  k_steps
  all_goals (refine cl_ret (Q := Q) hret ?_ (by k_asm) (by first | k_asm | (refine' cb_drop ?cbN ?cbS; (case cbN => assumption); (case cbS => kcj_all))))
  all_goals (refine ⟨_, _, rfl, ?_⟩)
  all_goals (dsimp only; omega)
theorem any_leap (y : Int) : ([3, 6, 8, 11, 14, 17, 19].any fun x => x == (y - 1).fmod 19 + 1) = leapB y := by
  rw [Int.fmod_eq_emod_of_nonneg _ (by omega)]
  unfold leapB
  simp only [List.any_cons, List.any_nil, Bool.or_false]
  obtain ⟨k, h⟩ := mod19 y
  rw [Bool.eq_iff_iff]
  simp only [Bool.or_eq_true, beq_iff_eq, decide_eq_true_eq]
  rcases h with rfl | rfl | rfl | rfl | rfl | rfl | rfl | rfl | rfl | rfl | rfl | rfl | rfl | rfl | rfl | rfl | rfl | rfl | rfl <;> omega
theorem long_ok (y : Int) (t : Tok) (h0 : 0 ≤ y) (h1 : y ≤ 1700000000) : Cl 1 8 140 [.int y t] (IsB (leapB y)) := by
  intro w mean mg mb dp un gd cn cs a ccd cl outer A₀ base h₀ L m news s Q E B F X N T hk hd hu hret
  refine wpAny_call ?_
  k_dflt cell_enter
  k_steps
  all_goals (refine cl_ret (Q := Q) hret ?_ (by k_asm) (by first | k_asm | (refine' cb_drop ?cbN ?cbS; (case cbN => assumption); (case cbS => kcj_all))))
  all_goals exact congrArg Value.bool (any_leap y)
theorem ahead_ok (y : Int) (t : Tok) (h0 : 1 ≤ y) (h1 : y ≤ 1700000000) : Cl0 1 8 147 [.int y t] (IsI (fun d => d = mo y)) := by
  intro w mean mg mb dp un gd cn cs a ccd cl outer A₀ base h₀ L m s Q E B F X N T hk hd hu hret
  refine wpAny_call ?_
  k_dflt cell_enter
  k_steps
  all_goals (refine cl_ret (Q := Q) hret ?_ (by k_asm) (by first | k_asm | (refine' cb_drop ?cbN ?cbS; (case cbN => assumption); (case cbS => kcj_all))))
  all_goals (refine ⟨_, _, rfl, ?_⟩)
  all_goals (dsimp only; unfold mo; have hp := Int.fmod_eq_emod_of_nonneg (y - 1) (show (0:Int) ≤ 19 by decide); have hq := Int.fdiv_eq_ediv_of_nonneg (y - 1) (show (0:Int) ≤ 19 by decide); simp only [hp, hq] at *; omega)
/-- a list comes back, beside an empty ledger -/
def ClO (D U : Nat) (f : Addr) (vs : List Value) (ns : List Int) : Prop :=
  ∀ (w : World) (mean : ExcName → Option Value) (mg mb : Str → Option Value) (dp un : Nat) (gd : Option (List Code)) (cn : Str) (cs : Scope) (a : Addr) (ccd : Value) (cl : List (Str × Addr)) (outer : List Env) (A₀ : Around) (base h₀ : Heap) (L : Addr) (m : Str → Option Value) (s : Shared) (Q E : Value → Shared → Prop),
    Below A₀ base outer h₀ → Fr h₀ L s.heap m → (Mine.hd1.heap_39 w.params).In h₀ → News h₀ L s.heap [] → Top Mine.hd1.view_39 (looseW Mine.hd1.view_39 []) mean mg mb h₀ → cs.kind = .function →
    dp + D < recursionLimit → un + U < cLine → (∀ (l : Addr) (xs : List Value) (h' : Heap) (tk' : Nat), IntsAre xs ns → Fr h₀ L h' m → News h₀ L h' [(l, W.listOf xs.toArray 0)] → Q (.ref l) { s with heap := h', toks := tk' }) →
      wpAny (model PySem.Challenge.rw_bd6013_01.row.prog w) (ktrTop dp un gd cn cs L a ccd cl outer) (call (.ref f) vs) Q E s
/-- a list comes back, to be read at once -/
def ClT (D U : Nat) (f : Addr) (vs : List Value) (ns : List Int) : Prop :=
  ∀ (w : World) (mean : ExcName → Option Value) (mg mb : Str → Option Value) (dp un : Nat) (gd : Option (List Code)) (cn : Str) (cs : Scope) (a : Addr) (ccd : Value) (cl : List (Str × Addr)) (outer : List Env) (A₀ : Around) (base h₀ : Heap) (L : Addr) (m : Str → Option Value) (news : List (Addr × Obj)) (s : Shared) (Q E : Value → Shared → Prop),
    Below A₀ base outer h₀ → Fr h₀ L s.heap m → (Mine.hd1.heap_39 w.params).In h₀ → News h₀ L s.heap news → Top Mine.hd1.view_39 (looseW Mine.hd1.view_39 []) mean mg mb h₀ → cs.kind = .function →
    dp + D < recursionLimit → un + U < cLine → (∀ (l : Addr) (xs : List Value) (h' : Heap) (tk' : Nat), h'.IsList l xs.toArray → IntsAre xs ns → Fr h₀ L h' m → News h₀ L h' news → Q (.ref l) { s with heap := h', toks := tk' }) →
      wpAny (model PySem.Challenge.rw_bd6013_01.row.prog w) (ktrTop dp un gd cn cs L a ccd cl outer) (call (.ref f) vs) Q E s
def lowT : List Int := [0, -14681, -2514, -16267, -4100, -17853, -5686, -19439, -7272, -21025, -11509, -25262, -13095, -928]
def highT : List Int := [0, 46674, 58841, 45088, 57255, 43502, 55669, 41916, 54083, 49846, 62013, 48260, 60427, 60427]
def lowY : List Int := [0, 48824, 48824, 48824, 48824, 48824, 48824, 48825, 48825, 639801, 128459, 128459, 128459, 128459]
def highY : List Int := [0, 193150, 193150, 193150, 193150, 193150, 193150, 193151, 193151, 193150, 193150, 193150, 193150, 383855]
@[irreducible] def ordT (y : Int) : List Int := if leapB y = true then [7, 8, 9, 10, 11, 12, 13, 1, 2, 3, 4, 5, 6] else [7, 8, 9, 10, 11, 12, 1, 2, 3, 4, 5, 6]
theorem low_ok : ClT 1 8 105 [] lowT := by
  intro w mean mg mb dp un gd cn cs a ccd cl outer A₀ base h₀ L m news s Q E B F X N T hk hd hu hret
  refine wpAny_call ?_
  k_dflt cell_enter
  k_steps
  all_goals (refine hret _ _ _ _ (News.isList (by assumption) (by k_mem)) ?_ (by k_asm) (by first | k_asm | (refine' cb_drop ?cbN ?cbS; (case cbN => assumption); (case cbS => kcj_all))))
  all_goals (unfold lowT; l_ints)
theorem high_ok : ClT 1 8 112 [] highT := by
  intro w mean mg mb dp un gd cn cs a ccd cl outer A₀ base h₀ L m news s Q E B F X N T hk hd hu hret
  refine wpAny_call ?_
  k_dflt cell_enter
  k_steps
  all_goals (refine hret _ _ _ _ (News.isList (by assumption) (by k_mem)) ?_ (by k_asm) (by first | k_asm | (refine' cb_drop ?cbN ?cbS; (case cbN => assumption); (case cbS => kcj_all))))
  all_goals (unfold highT; l_ints)
theorem lowy_ok : ClT 1 8 119 [] lowY := by
  intro w mean mg mb dp un gd cn cs a ccd cl outer A₀ base h₀ L m news s Q E B F X N T hk hd hu hret
  refine wpAny_call ?_
  k_dflt cell_enter
  k_steps
  all_goals (refine hret _ _ _ _ (News.isList (by assumption) (by k_mem)) ?_ (by k_asm) (by first | k_asm | (refine' cb_drop ?cbN ?cbS; (case cbN => assumption); (case cbS => kcj_all))))
  all_goals (unfold lowY; l_ints)
theorem highy_ok : ClT 1 8 126 [] highY := by
  intro w mean mg mb dp un gd cn cs a ccd cl outer A₀ base h₀ L m news s Q E B F X N T hk hd hu hret
  refine wpAny_call ?_
  k_dflt cell_enter
  k_steps
  all_goals (refine hret _ _ _ _ (News.isList (by assumption) (by k_mem)) ?_ (by k_asm) (by first | k_asm | (refine' cb_drop ?cbN ?cbS; (case cbN => assumption); (case cbS => kcj_all))))
  all_goals (unfold highY; l_ints)
local macro_rules | `(tactic| walk_at "call ref") => `(tactic| (k_here; k_dflt (first
  | (refine' cl_use (long_ok _ _ ?p0 ?p1) ?k1 ?k2 ?k3 ?k4 ?k5 ?kK ?kd ?ku ?_; (case p0 => first | omega | assumption); (case p1 => first | omega | assumption); (case k1 => k_asm); (case k2 => k_asm); (case k3 => k_asm); (case k4 => k_asm); (case k5 => k_asm); (case kK => first | exact rfl | assumption); (case kd => ktr_room); (case ku => ktr_units); intro v9 h9 tk9 hv9 F9 N9; subst hv9; (try dsimp only); (try k_fold); (try k_sweep)))))
theorem order_ok (y : Int) (t : Tok) (h0 : 0 ≤ y) (h1 : y ≤ 1700000000) : ClO 2 16 154 [.int y t] (ordT y) := by
  intro w mean mg mb dp un gd cn cs a ccd cl outer A₀ base h₀ L m s Q E B F X N T hk hd hu hret
  refine wpAny_call ?_
  k_dflt cell_enter
  k_steps
  all_goals (refine hret _ _ _ _ ?_ (by k_asm) (by k_asm))
  all_goals (unfold ordT; simp only [*, if_true, if_false, Bool.false_eq_true]; l_ints)
end Mine
end

section
open PySem PySem.W PyProof.Rows
set_option maxRecDepth 100000 
namespace Mine
/-- a marker: the tables of a turn -/
def ordA (y : Int) (i : Nat) : Int := (ordT y).getD (0 + (i : Int)).toNat 0
/-- the day on which the month at place i begins -/
@[irreducible] def st (y : Int) (i : Nat) : Int := 347998 + ny y + (if i < (ordT y).length then bef y ((ordT y).getD i 0) else ny (y + 1) - ny y)
def TF (y asked due : Int) (i : Nat) : Prop :=
  lowT.getD ((ordT y).getD (0 + (i : Int)).toNat 0).toNat 0 ≤ (st y i - 347998) * 25920 - (5604 + (mo y + (0 + (i : Int))) * 765433) ∧
  (st y i - 347998) * 25920 - (5604 + (mo y + (0 + (i : Int))) * 765433) ≤ highT.getD ((ordT y).getD (0 + (i : Int)).toNat 0).toNat 0 ∧
  ((ordT y).getD (0 + (i : Int)).toNat 0 = asked → (st y i - 347998) * 25920 - (5604 + (mo y + (0 + (i : Int))) * 765433) = due) ∧
  (0 + (i : Int) + 1 < ((ordT y).length : Int) → st y (i + 1) = 347998 + ny y + bef y ((ordT y).getD (0 + (i : Int) + 1).toNat 0)) ∧
  (¬ 0 + (i : Int) + 1 < ((ordT y).length : Int) → st y (i + 1) = 347998 + ny (y + 1)) ∧
  st y (i + 1) - st y i = ml y ((ordT y).getD (0 + (i : Int)).toNat 0) ∧
  0 ≤ st y i ∧ st y i < 2 ^ 45
def TFs (y asked due : Int) : Prop := ∀ i, i < (ordT y).length → TF y asked due i
theorem ord_len (y : Int) : (ordT y).length = 12 ∨ (ordT y).length = 13 := by
  unfold ordT; split
  · right; rfl
  · left; rfl
theorem ord_bd (y : Int) (j : Nat) (h : j < (ordT y).length) : 1 ≤ (ordT y).getD j 0 ∧ (ordT y).getD j 0 ≤ 13 := by
  have key : ∀ (l : List Int), (l.all fun v => decide (1 ≤ v) && decide (v ≤ 13)) = true → ∀ j, j < l.length → 1 ≤ l.getD j 0 ∧ l.getD j 0 ≤ 13 := by
    intro l hl j hj
    have e : l.getD j 0 = l[j] := by simp [List.getD, hj]
    rw [e]
    have h1 := List.all_eq_true.mp hl l[j] (List.getElem_mem hj)
    simpa using h1
  revert h
  unfold ordT
  split
  · exact key _ (by decide) j
  · exact key _ (by decide) j

section rules
variable {prog : Program} {w : World} {A : Around} {E : Value → Shared → Prop} {s : Shared}
theorem my_ord {value slice : PySem.Expr} {l : Addr} {vs : List Value} {k y : Int} {u : Tok} {Q : Value → Shared → Prop} (hl : s.heap.IsList l vs.toArray) (hi : IntsAre vs (ordT y))
    (h0 : 0 ≤ k) (h1 : k < (ordT y).length) (h : ∀ v t, v = (ordT y).getD k.toNat 0 → 1 ≤ v → v ≤ 13 → Q (.int v t) s)
    (hs : subscripted slice false (.ref l) (.int k u) = operate [.ref l, .int k u] (getItem (.ref l) (.int k u)) := by with_unfolding_all rfl) :
    wpAny (model prog w) A (subscriptTail value slice (.ref l) (.int k u)) Q E s := by
  have hb := ord_bd y k.toNat (by omega)
  have hln := ord_len y
  exact item_anyK hl hi h0 h1 (by omega) (fun t => h _ t rfl hb.1 hb.2) hs
theorem my_tab {value slice : PySem.Expr} {l : Addr} {vs : List Value} {k : Int} {ns : List Int} {u : Tok} {Q : Value → Shared → Prop} (hl : s.heap.IsList l vs.toArray) (hi : IntsAre vs ns) (hn : ns.length = 14)
    (h0 : 0 ≤ k) (h1 : k < 14) (h : ∀ v t, v = ns.getD k.toNat 0 → Q (.int v t) s)
    (hs : subscripted slice false (.ref l) (.int k u) = operate [.ref l, .int k u] (getItem (.ref l) (.int k u)) := by with_unfolding_all rfl) :
    wpAny (model prog w) A (subscriptTail value slice (.ref l) (.int k u)) Q E s :=
  item_anyK hl hi h0 (by omega) (by omega) (fun t => h _ t rfl) hs
theorem my_len {l : Addr} {vs : List Value} {y : Int} {Q : Value → Shared → Prop} (hl : s.heap.IsList l vs.toArray) (hi : IntsAre vs (ordT y))
    (h : Q (.int ((ordT y).length : Int) (s.toks + 1)) { s with toks := s.toks + 1 + 1 }) : wpAny (model prog w) A (call (.builtin "len") [.ref l]) Q E s := by
  have e : vs.toArray.size = (ordT y).length := by simp [hi.length]
  have hln := ord_len y
  refine len_list hl (by rw [e]; omega) ?_
  rw [e]; exact h
end rules

section loop
variable {prog : Program} {w : World} {A : Around} {E : Value → Shared → Prop} {s : Shared} {env : Env} {h₀ : Heap} {x y : Str} {junk : List Str} {body : List Stmt} {Q : Flow → Shared → Prop}
def NEnd (h₀ : Heap) (L : Addr) (x y : Str) (junk : List Str) (m₀ : Str → Option Value) (c : Int) (led : List (Addr × Obj)) (s₁ s₂ : Shared) : Prop :=
  ∃ h' tk m' t', s₂ = { s₁ with heap := h', toks := tk } ∧ Fr h₀ L h' m' ∧ News h₀ L h' led ∧ m' y = some (.int c t') ∧ ∀ z, z ≠ x → z ≠ y → junk.contains z = false → m' z = m₀ z
def NPost (h₀ : Heap) (L : Addr) (x y : Str) (junk : List Str) (m₀ : Str → Option Value) (c : Int) (led : List (Addr × Obj)) (s₁ : Shared) (Q : Flow → Shared → Prop) (f : Flow) (s₂ : Shared) : Prop :=
  match f with
  | .ret v => Q (.ret v) s₂
  | .brk => Q .next s₂
  | _ => NEnd h₀ L x y junk m₀ c led s₁ s₂
theorem NEnd.intro {L : Addr} {m₀ m' : Str → Option Value} {led : List (Addr × Obj)} {s₁ : Shared} {h' : Heap} {tk : Nat} {c c' : Int} {t' : Tok} (F : Fr h₀ L h' m') (N : News h₀ L h' led)
    (hy : m' y = some (.int c' t')) (hP : c' = c) (hm : ∀ z, z ≠ x → z ≠ y → junk.contains z = false → m' z = m₀ z) : NEnd h₀ L x y junk m₀ c led s₁ { s₁ with heap := h', toks := tk } := by
  subst hP; exact ⟨h', tk, m', t', rfl, F, N, hy, hm⟩
theorem map_num {m₁ m₀ : Str → Option Value} {v u : Value} (ha : m₁ y = some u) (hm : ∀ z, z ≠ x → z ≠ y → junk.contains z = false → m₁ z = m₀ z) :
    (fun z => if z = x then some v else m₁ z) = fun z => if z = x then some v else if z = y then some u else if junk.contains z = true then m₁ z else m₀ z := by
  funext z
  by_cases h1 : z = x
  · rw [if_pos h1, if_pos h1]
  · rw [if_neg h1, if_neg h1]
    by_cases h2 : z = y
    · rw [if_pos h2, h2, ha]
    · rw [if_neg h2]
      cases h3 : junk.contains z with
      | true => rw [if_pos rfl]
      | false => rw [if_neg (by decide)]; exact hm z h1 h2 h3
theorem map_num' {m₁ m₀ : Str → Option Value} {u : Value} (ha : m₁ y = some u) (hm : ∀ z, z ≠ x → z ≠ y → junk.contains z = false → m₁ z = m₀ z) :
    m₁ = fun z => if z = x then m₁ z else if z = y then some u else if junk.contains z = true then m₁ z else m₀ z := by
  funext z
  by_cases h1 : z = x
  · rw [if_pos h1]
  · rw [if_neg h1]
    by_cases h2 : z = y
    · rw [if_pos h2, h2, ha]
    · rw [if_neg h2]
      cases h3 : junk.contains z with
      | true => rw [if_pos rfl]
      | false => rw [if_neg (by decide)]; exact hm z h1 h2 h3
theorem rest_num {I : Addr} {n : Nat} {m₀ : Str → Option Value} {news : List (Addr × Obj)} (C : Nat → Int) (hoff : ∀ p ∈ news, p.1 < I)
    (turn : ∀ (i : Nat) t t' (u : Str → Option Value) h tk, i < n → Fr h₀ env.locals h (fun z => if z = x then some (.int (0 + (i : Int)) t) else if z = y then some (.int (C i) t') else if junk.contains z = true then u z else m₀ z) →
      News h₀ env.locals h ((I, itR (0 + ((i + 1 : Nat) : Int)) ((n : Int) - ((i + 1 : Nat) : Int))) :: news) →
      wpAny (model prog w) A (execs body env) (NPost h₀ env.locals x y junk m₀ (C (i + 1)) ((I, itR (0 + ((i + 1 : Nat) : Int)) ((n : Int) - ((i + 1 : Nat) : Int))) :: news) { s with heap := h, toks := tk } Q) E { s with heap := h, toks := tk })
    (done : ∀ (u : Str → Option Value) t' h tk, Fr h₀ env.locals h (fun z => if z = x then u z else if z = y then some (.int (C n) t') else if junk.contains z = true then u z else m₀ z) → News h₀ env.locals h news → Q .next { s with heap := h, toks := tk }) :
    ∀ k i m₁ t', i + k = n → m₁ y = some (.int (C i) t') → (∀ z, z ≠ x → z ≠ y → junk.contains z = false → m₁ z = m₀ z) → RangeRest prog w A E h₀ env x body Q s I 0 n k i m₁ news := by
  intro k
  induction k with
  | zero =>
    intro i m₁ t' hi hy hm
    have hi : i = n := by omega
    subst hi
    refine RangeRest.zero fun h tk F N => ?_
    rw [map_num' hy hm] at F
    exact done m₁ t' h tk F N
  | succ k ih =>
    intro i m₁ t' hi hy hm
    refine RangeRest.succ fun t h tk F N => ?_
    rw [map_num hy hm] at F
    refine wpAny_mono (turn i t t' m₁ h tk (by omega) F N) (fun f s₂ p => ?_) fun _ _ e => e
    have fin : NEnd h₀ env.locals x y junk m₀ (C (i + 1)) ((I, itR (0 + ((i + 1 : Nat) : Int)) ((n : Int) - ((i + 1 : Nat) : Int))) :: news) { s with heap := h, toks := tk } s₂ →
        UnrEnd h₀ env.locals { s with heap := h, toks := tk } I (itR (0 + ((i + 1 : Nat) : Int)) ((n : Int) - ((i + 1 : Nat) : Int))) (RangeRest prog w A E h₀ env x body Q s I 0 n k (i + 1)) s₂ := by
      rintro ⟨h', tk', m', t'', rfl, F', N', hy', hm'⟩
      exact ⟨h', tk', m', news, rfl, F', N', fun p hp => Nat.ne_of_lt (hoff p hp), ih (i + 1) m' t'' (by omega) hy' hm'⟩
    cases f with
    | ret v => exact p
    | brk => exact p
    | next => exact fin p
    | cont => exact fin p
theorem iter_num {r : Addr} {t₀ u₀ v₀ : Tok} {m₀ : Str → Option Value} {news : List (Addr × Obj)} {Y asked due c₀ : Int} {tc : Tok} (tf : TFs Y asked due)
    (hh : A.handled = none) (hr : IsRange s.heap r 0 ((ordT Y).length : Int) 1 t₀ u₀ v₀) (F : Fr h₀ env.locals s.heap m₀) (N : News h₀ env.locals s.heap news) (hy : m₀ y = some (.int c₀ tc)) (hc : c₀ = st Y 0)
    (turn : ∀ (i : Nat) t c t' (u : Str → Option Value) h tk I, (i : Int) < ((ordT Y).length : Int) → c = st Y i → 0 ≤ c → c < 2 ^ 45 → TF Y asked due i → Fr h₀ env.locals h (fun z => if z = x then some (.int (0 + (i : Int)) t) else if z = y then some (.int c t') else if junk.contains z = true then u z else m₀ z) →
      News h₀ env.locals h ((I, itR (0 + ((i + 1 : Nat) : Int)) (((ordT Y).length : Int) - ((i + 1 : Nat) : Int))) :: news) →
      wpAny (model prog w) A (execs body env) (NPost h₀ env.locals x y junk m₀ (st Y (i + 1)) ((I, itR (0 + ((i + 1 : Nat) : Int)) (((ordT Y).length : Int) - ((i + 1 : Nat) : Int))) :: news) { s with heap := h, toks := tk } Q) E { s with heap := h, toks := tk })
    (done : ∀ (u : Str → Option Value) t' h tk, Fr h₀ env.locals h (fun z => if z = x then u z else if z = y then some (.int (st Y (ordT Y).length) t') else if junk.contains z = true then u z else m₀ z) → News h₀ env.locals h news → Q .next { s with heap := h, toks := tk }) :
    wpAny (model prog w) A (pyIter (.ref r)) (fun it s₂ => LoopAtV prog w A h₀ env x body Q E it s₂) E s := by
  have hln := ord_len Y
  subst hc
  refine iter_rangeUnr (n := (ordT Y).length) hh hr (small_one (by omega) (by omega) (by omega) (by omega)) ((rangeSize_nat _ _).trans (by omega)) F N (fun I hI => ?_)
  refine rest_num (y := y) (m₀ := m₀) (junk := junk) (st Y) hI ?_ done _ 0 m₀ tc (by omega) hy (fun _ _ _ _ => rfl)
  intro i t t' u h tk hi F N
  have T := tf i hi
  obtain ⟨_, _, _, _, _, _, b0, b1⟩ := id T
  exact turn i t _ t' u h tk I (by omega) rfl b0 b1 T F N
end loop
end Mine
end

section
open PySem PySem.W PyProof.Rows
set_option Elab.async false
set_option maxRecDepth 100000 
set_option maxHeartbeats 8000000 
namespace Mine
theorem fillme5 : PySem.Challenge.rw_bd6013_01.prog = PySem.Challenge.rw_bd6013_01.prog ∧ Mine.hd1.heap_39 = Mine.hd1.heap_39 := by
  k_fill
  exact ⟨rfl, rfl⟩
section
variable {w : World} {mean : ExcName → Option Value} {mg mb : Str → Option Value} {dp un : Nat} {gd : Option (List Code)} {cn : Str} {cs : Scope} {a : Addr} {ccd : Value} {cl : List (Str × Addr)} {outer : List Env} {A₀ : Around} {base h₀ : Heap} {L : Addr} {m : Str → Option Value} {news : List (Addr × Obj)} {s : Shared} {Q E : Value → Shared → Prop} {D U : Nat} {f : Addr} {vs : List Value} {R : Value → Prop} {ns : List Int}
theorem cl0_use (C : Cl0 D U f vs R) (B : Below A₀ base outer h₀) (F : Fr h₀ L s.heap m) (X : (Mine.hd1.heap_39 w.params).In h₀) (N : News h₀ L s.heap []) (T : Top Mine.hd1.view_39 (looseW Mine.hd1.view_39 []) mean mg mb h₀) (hk : cs.kind = .function)
    (hd : dp + D < recursionLimit) (hu : un + U < cLine) (ret : ∀ (v : Value) (h' : Heap) (tk' : Nat), R v → Fr h₀ L h' m → News h₀ L h' [] → Q v { s with heap := h', toks := tk' }) :
      wpAny (model PySem.Challenge.rw_bd6013_01.row.prog w) (ktrTop dp un gd cn cs L a ccd cl outer) (call (.ref f) vs) Q E s :=
  C w mean mg mb dp un gd cn cs a ccd cl outer A₀ base h₀ L m s Q E B F X N T hk hd hu ret
theorem clO_use (C : ClO D U f vs ns) (B : Below A₀ base outer h₀) (F : Fr h₀ L s.heap m) (X : (Mine.hd1.heap_39 w.params).In h₀) (N : News h₀ L s.heap []) (T : Top Mine.hd1.view_39 (looseW Mine.hd1.view_39 []) mean mg mb h₀) (hk : cs.kind = .function)
    (hd : dp + D < recursionLimit) (hu : un + U < cLine) (ret : ∀ (l : Addr) (xs : List Value) (h' : Heap) (tk' : Nat), IntsAre xs ns → Fr h₀ L h' m → News h₀ L h' [(l, W.listOf xs.toArray 0)] → Q (.ref l) { s with heap := h', toks := tk' }) :
      wpAny (model PySem.Challenge.rw_bd6013_01.row.prog w) (ktrTop dp un gd cn cs L a ccd cl outer) (call (.ref f) vs) Q E s :=
  C w mean mg mb dp un gd cn cs a ccd cl outer A₀ base h₀ L m s Q E B F X N T hk hd hu ret
theorem clT_use (C : ClT D U f vs ns) (B : Below A₀ base outer h₀) (F : Fr h₀ L s.heap m) (X : (Mine.hd1.heap_39 w.params).In h₀) (N : News h₀ L s.heap news) (T : Top Mine.hd1.view_39 (looseW Mine.hd1.view_39 []) mean mg mb h₀) (hk : cs.kind = .function)
    (hd : dp + D < recursionLimit) (hu : un + U < cLine) (ret : ∀ (l : Addr) (xs : List Value) (h' : Heap) (tk' : Nat), h'.IsList l xs.toArray → IntsAre xs ns → Fr h₀ L h' m → News h₀ L h' news → Q (.ref l) { s with heap := h', toks := tk' }) :
      wpAny (model PySem.Challenge.rw_bd6013_01.row.prog w) (ktrTop dp un gd cn cs L a ccd cl outer) (call (.ref f) vs) Q E s :=
  C w mean mg mb dp un gd cn cs a ccd cl outer A₀ base h₀ L m news s Q E B F X N T hk hd hu ret
end
theorem ClG0 {D U : Nat} {f : Addr} {vs : List Value} {R : Value → Prop} (h : Cl D U f vs R) : Cl0 D U f vs R :=
  fun w mean mg mb dp un gd cn cs a ccd cl outer A₀ base h₀ L m s Q E B F X N T hk hd hu hret => h w mean mg mb dp un gd cn cs a ccd cl outer A₀ base h₀ L m [] s Q E B F X N T hk hd hu hret
theorem mo_bd {y : Int} (h0 : 1 ≤ y) (h1 : y ≤ 1700000000) : 0 ≤ mo y ∧ mo y ≤ 30000000000 := by unfold mo; omega
theorem st_zero (y : Int) : st y 0 = 348000 + ny y - 2 := by
  have hln := ord_len y
  have e : (ordT y).getD 0 0 = 7 := by unfold ordT; split <;> rfl
  unfold st bef
  rw [if_pos (by omega), e]
  have e2 : ((7 : Int) - 7).toNat = 0 := rfl
  rw [e2, sm_zero, if_neg (by decide)]
  omega
local macro_rules | `(tactic| walk_at "call ref") => `(tactic| (k_here; k_dflt (first
  | (refine' cl_use (jd7_ok _ _ _ _ ?p0 ?p1) ?k1 ?k2 ?k3 ?k4 ?k5 ?kK ?kd ?ku ?_; (case p0 => first | omega | assumption); (case p1 => first | omega | assumption); (case k1 => k_asm); (case k2 => k_asm); (case k3 => k_asm); (case k4 => k_asm); (case k5 => k_asm); (case kK => first | exact rfl | assumption); (case kd => ktr_room); (case ku => ktr_units); intro v9 h9 tk9 hv9 F9 N9; obtain ⟨d9, t9, hv9, hd9⟩ := hv9; subst hv9; (try dsimp only at hd9); (try dsimp only); (try k_fold); (try k_sweep))
  | (refine' cl_use (jd_ok _ _ _ _ _ ?p0 ?p1 ?p2 ?p3) ?k1 ?k2 ?k3 ?k4 ?k5 ?kK ?kd ?ku ?_; (case p0 => first | omega | assumption); (case p1 => first | omega | assumption); (case p2 => first | omega | assumption); (case p3 => first | omega | assumption); (case k1 => k_asm); (case k2 => k_asm); (case k3 => k_asm); (case k4 => k_asm); (case k5 => k_asm); (case kK => first | exact rfl | assumption); (case kd => ktr_room); (case ku => ktr_units); intro v9 h9 tk9 hv9 F9 N9; obtain ⟨d9, t9, hv9, hd9⟩ := hv9; subst hv9; (try dsimp only at hd9); (try dsimp only); (try k_fold); (try k_sweep))
  | (refine' cl_use (number_ok _ _ ?p0 ?p1) ?k1 ?k2 ?k3 ?k4 ?k5 ?kK ?kd ?ku ?_; (case p0 => first | omega | assumption); (case p1 => first | omega | assumption); (case k1 => k_asm); (case k2 => k_asm); (case k3 => k_asm); (case k4 => k_asm); (case k5 => k_asm); (case kK => first | exact rfl | assumption); (case kd => ktr_room); (case ku => ktr_units); intro v9 h9 tk9 hv9 F9 N9; obtain ⟨d9, t9, hv9, hd9⟩ := hv9; subst hv9; (try dsimp only at hd9); (try dsimp only); (try k_fold); (try k_sweep))
  | (refine' cl_use (behind_ok _ _ _ _ ?p0 ?p1 ?p2 ?p3) ?k1 ?k2 ?k3 ?k4 ?k5 ?kK ?kd ?ku ?_; (case p0 => first | omega | assumption); (case p1 => first | omega | assumption); (case p2 => first | omega | assumption); (case p3 => first | omega | assumption); (case k1 => k_asm); (case k2 => k_asm); (case k3 => k_asm); (case k4 => k_asm); (case k5 => k_asm); (case kK => first | exact rfl | assumption); (case kd => ktr_room); (case ku => ktr_units); intro v9 h9 tk9 hv9 F9 N9; obtain ⟨d9, t9, hv9, hd9⟩ := hv9; subst hv9; (try dsimp only at hd9); (try dsimp only); (try k_fold); (try k_sweep))
  | (refine' cl_use (md_ok _ _ _ _ ?p0 ?p1 ?p2 ?p3) ?k1 ?k2 ?k3 ?k4 ?k5 ?kK ?kd ?ku ?_; (case p0 => first | omega | assumption); (case p1 => first | omega | assumption); (case p2 => first | omega | assumption); (case p3 => first | omega | assumption); (case k1 => k_asm); (case k2 => k_asm); (case k3 => k_asm); (case k4 => k_asm); (case k5 => k_asm); (case kK => first | exact rfl | assumption); (case kd => ktr_room); (case ku => ktr_units); intro v9 h9 tk9 hv9 F9 N9; obtain ⟨d9, t9, hv9, hd9⟩ := hv9; subst hv9; (try dsimp only at hd9); (try dsimp only); (try k_fold); (try k_sweep)))))
local macro_rules | `(tactic| walk_at "call ref") => `(tactic| (k_here; k_dflt (first
  | (refine' clT_use low_ok ?k1 ?k2 ?k3 ?k4 ?k5 ?kK ?kd ?ku ?_; (case k1 => k_asm); (case k2 => k_asm); (case k3 => k_asm); (case k4 => k_asm); (case k5 => k_asm); (case kK => first | exact rfl | assumption); (case kd => ktr_room); (case ku => ktr_units); intro l9 xs9 h9 tk9 hl9 hx9 F9 N9; (try dsimp only); (try k_fold); (try k_sweep))
  | (refine' clT_use high_ok ?k1 ?k2 ?k3 ?k4 ?k5 ?kK ?kd ?ku ?_; (case k1 => k_asm); (case k2 => k_asm); (case k3 => k_asm); (case k4 => k_asm); (case k5 => k_asm); (case kK => first | exact rfl | assumption); (case kd => ktr_room); (case ku => ktr_units); intro l9 xs9 h9 tk9 hl9 hx9 F9 N9; (try dsimp only); (try k_fold); (try k_sweep))
  | (refine' clO_use (order_ok _ _ ?p0 ?p1) ?k1 ?k2 ?k3 ?k4 ?k5 ?kK ?kd ?ku ?_; (case p0 => omega); (case p1 => omega); (case k1 => k_asm); (case k2 => k_asm); (case k3 => k_asm); (case k4 => k_asm); (case k5 => k_asm); (case kK => first | exact rfl | assumption); (case kd => ktr_room); (case ku => ktr_units); intro l9 xs9 h9 tk9 hx9 F9 N9; (try dsimp only); (try k_fold); (try k_sweep))
  | (refine' cl0_use (ahead_ok _ _ ?p0 ?p1) ?k1 ?k2 ?k3 ?k4 ?k5 ?kK ?kd ?ku ?_; (case p0 => omega); (case p1 => omega); (case k1 => k_asm); (case k2 => k_asm); (case k3 => k_asm); (case k4 => k_asm); (case k5 => k_asm); (case kK => first | exact rfl | assumption); (case kd => ktr_room); (case ku => ktr_units); intro v9 h9 tk9 hv9 F9 N9; obtain ⟨d9, t9, hv9, hd9⟩ := hv9; subst hv9; (try dsimp only at hd9); (try dsimp only); (try k_fold); (try k_sweep)))))
local macro_rules | `(tactic| walk_at "subscriptTail Name Name ref int") => `(tactic| (k_here; (with_unfolding_all (refine' my_ord ?k1 ?k2 ?k3 ?k4 ?_ ?k6; (case k1 => exact News.isList (by assumption) (by k_mem)); (case k2 => assumption); (case k3 => omega); (case k4 => omega); (case k6 => with_unfolding_all rfl); k_whole; intro v8 t8 hv8 hv80 hv81))))
local macro_rules | `(tactic| walk_at "subscriptTail Name BinOp ref int") => `(tactic| (k_here; (with_unfolding_all (refine' my_ord ?k1 ?k2 ?k3 ?k4 ?_ ?k6; (case k1 => exact News.isList (by assumption) (by k_mem)); (case k2 => assumption); (case k3 => omega); (case k4 => omega); (case k6 => with_unfolding_all rfl); k_whole; intro v8 t8 hv8 hv80 hv81))))
local macro_rules | `(tactic| walk_at "subscriptTail") => `(tactic| (k_here; (with_reducible show wpAny _ _ (subscriptTail _ _ (Value.ref _) (Value.int _ _)) _ _ _); (with_unfolding_all first
  | (refine' my_ord ?k1 ?k2 ?k3 ?k4 ?_ ?k6; (case k1 => exact News.isList (by assumption) (by k_mem)); (case k2 => assumption); (case k3 => omega); (case k4 => omega); (case k6 => with_unfolding_all rfl); k_whole; intro v8 t8 hv8 hv80 hv81)
  | (refine' my_tab ?k1 ?k2 ?kn ?k3 ?k4 ?_ ?k6; (case k1 => assumption); (case k2 => assumption); (case kn => rfl); (case k3 => omega); (case k4 => omega); (case k6 => with_unfolding_all rfl); k_whole; intro v8 t8 hv8))))
local macro_rules | `(tactic| walk_at "call builtin:len") => `(tactic| (k_here; (with_unfolding_all (refine' my_len ?k1 ?k2 ?_; (case k1 => exact News.isList (by assumption) (by k_mem)); (case k2 => assumption); k_whole))))
local macro_rules | `(tactic| walk_at "pyIter ref") => `(tactic| ((with_reducible show wpAny _ _ (pyIter (Value.ref _)) (fun it s₂ => LoopAtV _ _ _ _ _ _ _ _ _ it s₂) _ _); (with_reducible rename TFs _ _ _ => tf9); (rename Fr _ _ _ _ => lF'); (rename News _ _ _ _ => lN'); (rename IsRange _ _ _ _ _ _ _ _ => rgX); (with_unfolding_all refine' iter_num (y := Str.ofString "number") (junk := [Str.ofString "month", Str.ofString "behind", Str.ofString "after"]) tf9 (by rfl) rgX lF' lN' (by rfl) ?hc (fun i' t' c' t'' u' h' tk' I' hi' hc' hs0' hs1' hT' F' N' => ?_) (fun u' t' h' tk' F' N' => ?_)); (case hc => (rw [st_zero]; omega)); all_goals (clear lF' lN'); all_goals (try k_fold)))
local macro_rules | `(tactic| walk_at "NPost") => `(tactic| (dsimp only [NPost]))
theorem year_ok (y asked due : Int) (t t1 t2 : Tok) (h0 : 1 ≤ y) (h1 : y ≤ 1600000000) (tf : TFs y asked due) : Cl0 8 64 175 [.int y t, .int asked t1, .int due t2] (IsB true) := by
  have hmo := mo_bd h0 (by omega)
  have hln := ord_len y
  intro w mean mg mb dp un gd cn cs a ccd cl outer A₀ base h₀ L m s Q E B F X N T hk hd hu hret
  refine wpAny_call ?_
  k_dflt cell_enter
  k_steps
  all_goals first
    | ((refine cl_ret (Q := Q) hret ?_ (by k_asm) (by first | k_asm | (refine' cb_drop ?cbN ?cbS; (case cbN => assumption); (case cbS => kcj_all)))); first
      | exact rfl
      | (exfalso; (with_reducible rename TF _ _ _ _ => hT9); obtain ⟨f1, f2, f3, f4, f5, f6, f7, f8⟩ := hT9; subst_vars; omega))
    | (refine' NEnd.intro ?F ?N ?a ?b ?c; (case F => assumption); (case N => assumption); (case a => with_unfolding_all rfl); (case b => (with_reducible rename TF _ _ _ _ => hT9); obtain ⟨f1, f2, f3, f4, f5, f6, f7, f8⟩ := hT9; subst_vars; omega); (case c => (intro z h1 h2 h3; have h4 := h3; simp only [List.contains_cons, List.contains_nil, Bool.or_false, Bool.or_eq_false_iff, beq_eq_false_iff_ne] at h4; obtain ⟨j1, j2, j3⟩ := h4; simp only [h1, h2, h3, if_neg j1, if_neg j2, if_neg j3, if_false, Bool.false_eq_true])))
  all_goals trace_state
end Mine
end

section
namespace Mine
theorem fmod_pos (a : Int) {n : Int} (h : 0 ≤ n) : a.fmod n = a % n := Int.fmod_eq_emod_of_nonneg a h
/-! what a whole round of 689472 years turns -/
theorem mo_per (y q : Int) : mo (y + 689472 * q) = mo y + 8527680 * q := by unfold mo; omega
theorem leap_per (y q : Int) : leapB (y + 689472 * q) = leapB y := by 
  unfold leapB
  rw [show (y + 689472 * q) * 7 + 1 = (y * 7 + 1) + 19 * (254016 * q) by omega, Int.add_mul_emod_self_left]
theorem dd_per (y q : Int) : dd (y + 689472 * q) = dd y + 251827457 * q := by rw [dd_eq, dd_eq, mo_per]; omega
theorem d1_per (y q : Int) : d1 (y + 689472 * q) = d1 y + 251827457 * q := by
  unfold d1
  rw [dd_per, show 3 * (dd y + 251827457 * q + 1) = 3 * (dd y + 1) + 7 * (107926053 * q) by omega, Int.add_mul_emod_self_left]
  split <;> omega
theorem d2_per (y q : Int) : d2 (y + 689472 * q) = d2 y := by
  unfold d2
  have e1 : y + 689472 * q + 1 = (y + 1) + 689472 * q := by omega
  have e2 : y + 689472 * q - 1 = (y - 1) + 689472 * q := by omega
  rw [e1, e2, d1_per, d1_per, d1_per]
  have a1 : d1 (y + 1) + 251827457 * q - (d1 y + 251827457 * q) = d1 (y + 1) - d1 y := by omega
  have a2 : d1 y + 251827457 * q - (d1 (y - 1) + 251827457 * q) = d1 y - d1 (y - 1) := by omega
  rw [a1, a2]
theorem ny_per (y q : Int) : ny (y + 689472 * q) = ny y + 251827457 * q := by unfold ny; rw [d1_per, d2_per]; omega
theorem yd_per (y q : Int) : ny (y + 689472 * q + 1) - ny (y + 689472 * q) = ny (y + 1) - ny y := by
  have e1 : y + 689472 * q + 1 = (y + 1) + 689472 * q := by omega
  rw [e1, ny_per, ny_per]; omega
theorem ml_per (y q m : Int) : ml (y + 689472 * q) m = ml y m := by unfold ml; rw [leap_per, yd_per]
theorem sm_per (y q a : Int) (n : Nat) : sm (y + 689472 * q) a n = sm y a n := by
  induction n with
  | zero => rw [sm_zero, sm_zero]
  | succ n ih => rw [sm_succ, sm_succ, ih, ml_per]
theorem bef_per (y q i : Int) : bef (y + 689472 * q) i = bef y i := by unfold bef; rw [leap_per]; simp only [sm_per]
theorem ord_per (y q : Int) : ordT (y + 689472 * q) = ordT y := by unfold ordT; rw [leap_per]
/-- how far month i of the order stands behind its moon -/
@[irreducible] def bh (y : Int) (i : Nat) : Int := (st y i - 347998) * 25920 - (5604 + (mo y + (i : Int)) * 765433)
theorem bh_per (y q : Int) (i : Nat) : bh (y + 689472 * q) i = bh y i := by
  unfold bh st
  rw [ord_per, mo_per, bef_per, yd_per, ny_per]
  omega

/-! the months of a year -/
theorem ml_7 (y : Int) : ml y 7 = 30 := by unfold ml; simp
theorem ml_10 (y : Int) : ml y 10 = 29 := by unfold ml; simp
theorem ml_11 (y : Int) : ml y 11 = 30 := by unfold ml; simp
theorem ml_13 (y : Int) : ml y 13 = 29 := by unfold ml; simp
theorem ml_1 (y : Int) : ml y 1 = 30 := by unfold ml; simp
theorem ml_2 (y : Int) : ml y 2 = 29 := by unfold ml; simp
theorem ml_3 (y : Int) : ml y 3 = 30 := by unfold ml; simp
theorem ml_4 (y : Int) : ml y 4 = 29 := by unfold ml; simp
theorem ml_5 (y : Int) : ml y 5 = 30 := by unfold ml; simp
theorem ml_6 (y : Int) : ml y 6 = 29 := by unfold ml; simp
theorem ml_12 (y : Int) : (leapB y = true ∧ ml y 12 = 30) ∨ (leapB y = false ∧ ml y 12 = 29) := by
  unfold ml; cases leapB y <;> simp
theorem ml_8 (y : Int) : ((ny (y + 1) - ny y) % 10 = 5 ∧ ml y 8 = 30) ∨ ((ny (y + 1) - ny y) % 10 ≠ 5 ∧ ml y 8 = 29) := by
  unfold ml
  by_cases h : (ny (y + 1) - ny y) % 10 = 5 <;> simp [h]
theorem ml_9 (y : Int) : ((ny (y + 1) - ny y) % 10 = 3 ∧ ml y 9 = 29) ∨ ((ny (y + 1) - ny y) % 10 ≠ 3 ∧ ml y 9 = 30) := by
  unfold ml
  by_cases h : (ny (y + 1) - ny y) % 10 = 3 <;> simp [h]
theorem sm_7 (y : Int) : sm y 7 0 = 0 ∧ sm y 7 1 = 30 ∧ sm y 7 2 = 30 + ml y 8 ∧ sm y 7 3 = 30 + ml y 8 + ml y 9 ∧ sm y 7 4 = 59 + ml y 8 + ml y 9 ∧ sm y 7 5 = 89 + ml y 8 + ml y 9 ∧
    sm y 7 6 = 89 + ml y 8 + ml y 9 + ml y 12 ∧ sm y 7 7 = 118 + ml y 8 + ml y 9 + ml y 12 := by
  have e0 : sm y 7 0 = 0 := sm_zero y 7
  have e1 : sm y 7 1 = sm y 7 0 + ml y 7 := sm_succ y 7 0
  have e2 : sm y 7 2 = sm y 7 1 + ml y 8 := sm_succ y 7 1
  have e3 : sm y 7 3 = sm y 7 2 + ml y 9 := sm_succ y 7 2
  have e4 : sm y 7 4 = sm y 7 3 + ml y 10 := sm_succ y 7 3
  have e5 : sm y 7 5 = sm y 7 4 + ml y 11 := sm_succ y 7 4
  have e6 : sm y 7 6 = sm y 7 5 + ml y 12 := sm_succ y 7 5
  have e7 : sm y 7 7 = sm y 7 6 + ml y 13 := sm_succ y 7 6
  have a1 := ml_7 y
  have a2 := ml_10 y
  have a3 := ml_11 y
  have a4 := ml_13 y
  omega
theorem sm_1 (y : Int) : sm y 1 0 = 0 ∧ sm y 1 1 = 30 ∧ sm y 1 2 = 59 ∧ sm y 1 3 = 89 ∧ sm y 1 4 = 118 ∧ sm y 1 5 = 148 := by
  have e0 : sm y 1 0 = 0 := sm_zero y 1
  have e1 : sm y 1 1 = sm y 1 0 + ml y 1 := sm_succ y 1 0
  have e2 : sm y 1 2 = sm y 1 1 + ml y 2 := sm_succ y 1 1
  have e3 : sm y 1 3 = sm y 1 2 + ml y 3 := sm_succ y 1 2
  have e4 : sm y 1 4 = sm y 1 3 + ml y 4 := sm_succ y 1 3
  have e5 : sm y 1 5 = sm y 1 4 + ml y 5 := sm_succ y 1 4
  have a1 := ml_1 y
  have a2 := ml_2 y
  have a3 := ml_3 y
  have a4 := ml_4 y
  have a5 := ml_5 y
  omega
theorem bef_hi (y : Int) : bef y 7 = sm y 7 0 ∧ bef y 8 = sm y 7 1 ∧ bef y 9 = sm y 7 2 ∧ bef y 10 = sm y 7 3 ∧ bef y 11 = sm y 7 4 ∧ bef y 12 = sm y 7 5 ∧ bef y 13 = sm y 7 6 := by
  unfold bef; exact ⟨rfl, rfl, rfl, rfl, rfl, rfl, rfl⟩
theorem bef_loF {y : Int} (h : leapB y = false) : bef y 1 = sm y 7 6 + sm y 1 0 ∧ bef y 2 = sm y 7 6 + sm y 1 1 ∧ bef y 3 = sm y 7 6 + sm y 1 2 ∧ bef y 4 = sm y 7 6 + sm y 1 3 ∧ bef y 5 = sm y 7 6 + sm y 1 4 ∧ bef y 6 = sm y 7 6 + sm y 1 5 := by
  unfold bef; rw [h]; exact ⟨rfl, rfl, rfl, rfl, rfl, rfl⟩
theorem bef_loT {y : Int} (h : leapB y = true) : bef y 1 = sm y 7 7 + sm y 1 0 ∧ bef y 2 = sm y 7 7 + sm y 1 1 ∧ bef y 3 = sm y 7 7 + sm y 1 2 ∧ bef y 4 = sm y 7 7 + sm y 1 3 ∧ bef y 5 = sm y 7 7 + sm y 1 4 ∧ bef y 6 = sm y 7 7 + sm y 1 5 := by
  unfold bef; rw [h]; exact ⟨rfl, rfl, rfl, rfl, rfl, rfl⟩
theorem b7_bd (y : Int) : -19439 ≤ b7 y ∧ b7 y ≤ 41916 := by
  have := b7_eq y
  have := ny_rule y
  have := fp_bd y
  omega
theorem ny_pos {y : Int} (h0 : 1 ≤ y) (h1 : y ≤ 1900000000) : 0 ≤ ny y ∧ ny y ≤ 1000000000010 := by
  have := d1_bd (y := y) (by omega) (by omega)
  have := d2_bd y
  unfold ny; omega
def lowF (m : Int) : Int := lowT.getD m.toNat 0
def highF (m : Int) : Int := highT.getD m.toNat 0
theorem tf_leaf {y asked due : Int} {i : Nat} {m lo up S S' : Int} (hi : i < (ordT y).length) (hx : (ordT y).getD i 0 = asked → bh y i = due) (n0 : 0 ≤ ny y) (n1 : ny y ≤ 1000000000010)
    (hm : (ordT y).getD i 0 = m) (hlo : lowF m = lo) (hhi : highF m = up) (hs : st y i = 347998 + ny y + S) (hs' : st y (i + 1) = 347998 + ny y + S')
    (hl : S' - S = ml y m) (hS : 0 ≤ S ∧ S ≤ 400) (hb1 : lo ≤ b7 y + 25920 * S - (i : Int) * 765433) (hb2 : b7 y + 25920 * S - (i : Int) * 765433 ≤ up) : TF y asked due i := by
  have hb : b7 y = ny y * 25920 - (5604 + mo y * 765433) := by unfold b7; rfl
  have e0 : bh y i = b7 y + 25920 * S - (i : Int) * 765433 := by unfold bh; rw [hs, hb]; omega
  unfold TF
  have e1 : (0 + (i : Int)).toNat = i := by omega
  have e2 : (0 + (i : Int) + 1).toNat = i + 1 := by omega
  have e3 : (st y i - 347998) * 25920 - (5604 + (mo y + (0 + (i : Int))) * 765433) = bh y i := by unfold bh; rw [Int.zero_add]
  rw [e1, e2, e3]
  refine ⟨?_, ?_, hx, ?_, ?_, ?_, ?_, ?_⟩
  · rw [hm, e0]; exact (show lowF m ≤ _ by rw [hlo]; exact hb1)
  · rw [hm, e0]; exact (show _ ≤ highF m by rw [hhi]; exact hb2)
  · intro h; unfold st; rw [if_pos (by omega)]
  · intro h; unfold st; rw [if_neg (by omega)]; omega
  · rw [hs, hs', hm, ← hl]; omega
  · omega
  · omega
theorem ord_F {y : Int} (h : leapB y = false) : ordT y = [7, 8, 9, 10, 11, 12, 1, 2, 3, 4, 5, 6] := by unfold ordT; rw [h]; rfl
theorem st_F {y : Int} (h : leapB y = false) : st y 0 = 347998 + ny y + bef y 7 ∧ st y 1 = 347998 + ny y + bef y 8 ∧ st y 2 = 347998 + ny y + bef y 9 ∧ st y 3 = 347998 + ny y + bef y 10 ∧ st y 4 = 347998 + ny y + bef y 11 ∧ st y 5 = 347998 + ny y + bef y 12 ∧ st y 6 = 347998 + ny y + bef y 1 ∧ st y 7 = 347998 + ny y + bef y 2 ∧ st y 8 = 347998 + ny y + bef y 3 ∧ st y 9 = 347998 + ny y + bef y 4 ∧ st y 10 = 347998 + ny y + bef y 5 ∧ st y 11 = 347998 + ny y + bef y 6 ∧ st y 12 = 347998 + ny y + (ny (y + 1) - ny y) := by
  unfold st; rw [ord_F h]; exact ⟨rfl, rfl, rfl, rfl, rfl, rfl, rfl, rfl, rfl, rfl, rfl, rfl, rfl⟩
theorem S_F {y : Int} (h : leapB y = false) : bef y 7 = 0 ∧ bef y 8 = 30 ∧ bef y 9 = 30 + ml y 8 ∧ bef y 10 = 30 + ml y 8 + ml y 9 ∧ bef y 11 = 59 + ml y 8 + ml y 9 ∧ bef y 12 = 89 + ml y 8 + ml y 9 ∧ bef y 1 = 118 + ml y 8 + ml y 9 ∧ bef y 2 = 148 + ml y 8 + ml y 9 ∧ bef y 3 = 177 + ml y 8 + ml y 9 ∧ bef y 4 = 207 + ml y 8 + ml y 9 ∧ bef y 5 = 236 + ml y 8 + ml y 9 ∧ bef y 6 = 266 + ml y 8 + ml y 9 := by
  have m12 := ml_12 y
  simp only [h, Bool.false_eq_true, Bool.true_eq_false, false_and, true_and, false_or, or_false] at m12
  obtain ⟨a0, a1, a2, a3, a4, a5, a6, a7⟩ := sm_7 y
  obtain ⟨b0, b1, b2, b3, b4, b5⟩ := sm_1 y
  obtain ⟨c7, c8, c9, c10, c11, c12, c13⟩ := bef_hi y
  obtain ⟨d1, d2, d3, d4, d5, d6⟩ := bef_loF h
  rw [c7, c8, c9, c10, c11, c12, d1, d2, d3, d4, d5, d6, a0, a1, a2, a3, a4, a5, a6, b0, b1, b2, b3, b4, b5, m12]
  refine ⟨?_, ?_, ?_, ?_, ?_, ?_, ?_, ?_, ?_, ?_, ?_, ?_⟩ <;> omega
theorem K_F {y : Int} (h : leapB y = false) : (ny (y + 1) - ny y = 353 ∧ ml y 8 = 29 ∧ ml y 9 = 29 ∧ 15997 ≤ b7 y) ∨ (ny (y + 1) - ny y = 354 ∧ ml y 8 = 29 ∧ ml y 9 = 30 ∧ -9923 ≤ b7 y) ∨ (ny (y + 1) - ny y = 355 ∧ ml y 8 = 30 ∧ ml y 9 = 30 ∧ b7 y ≤ 25512) := by
  have k0 := kind y
  have m8 := ml_8 y
  have m9 := ml_9 y
  unfold Kind at k0
  simp only [h, Bool.false_eq_true, Bool.true_eq_false, false_and, true_and, false_or, or_false] at k0
  rcases k0 with ⟨e, k⟩ | ⟨e, k⟩ | ⟨e, k⟩ <;> rw [e] at m8 m9 <;> simp at m8 m9 <;> simp [e, k, m8, m9]
theorem SF_7 {y : Int} (h : leapB y = false) : bef y 7 = 0 := (S_F h).1
theorem SF_8 {y : Int} (h : leapB y = false) : bef y 8 = 30 := (S_F h).2.1
theorem SF_9 {y : Int} (h : leapB y = false) : bef y 9 = 30 + ml y 8 := (S_F h).2.2.1
theorem SF_10 {y : Int} (h : leapB y = false) : bef y 10 = 30 + ml y 8 + ml y 9 := (S_F h).2.2.2.1
theorem SF_11 {y : Int} (h : leapB y = false) : bef y 11 = 59 + ml y 8 + ml y 9 := (S_F h).2.2.2.2.1
theorem SF_12 {y : Int} (h : leapB y = false) : bef y 12 = 89 + ml y 8 + ml y 9 := (S_F h).2.2.2.2.2.1
theorem SF_1 {y : Int} (h : leapB y = false) : bef y 1 = 118 + ml y 8 + ml y 9 := (S_F h).2.2.2.2.2.2.1
theorem SF_2 {y : Int} (h : leapB y = false) : bef y 2 = 148 + ml y 8 + ml y 9 := (S_F h).2.2.2.2.2.2.2.1
theorem SF_3 {y : Int} (h : leapB y = false) : bef y 3 = 177 + ml y 8 + ml y 9 := (S_F h).2.2.2.2.2.2.2.2.1
theorem SF_4 {y : Int} (h : leapB y = false) : bef y 4 = 207 + ml y 8 + ml y 9 := (S_F h).2.2.2.2.2.2.2.2.2.1
theorem SF_5 {y : Int} (h : leapB y = false) : bef y 5 = 236 + ml y 8 + ml y 9 := (S_F h).2.2.2.2.2.2.2.2.2.2.1
theorem SF_6 {y : Int} (h : leapB y = false) : bef y 6 = 266 + ml y 8 + ml y 9 := (S_F h).2.2.2.2.2.2.2.2.2.2.2
theorem stF_0 {y : Int} (h : leapB y = false) : st y 0 = 347998 + ny y + bef y 7 := (st_F h).1
theorem stF_1 {y : Int} (h : leapB y = false) : st y 1 = 347998 + ny y + bef y 8 := (st_F h).2.1
theorem stF_2 {y : Int} (h : leapB y = false) : st y 2 = 347998 + ny y + bef y 9 := (st_F h).2.2.1
theorem stF_3 {y : Int} (h : leapB y = false) : st y 3 = 347998 + ny y + bef y 10 := (st_F h).2.2.2.1
theorem stF_4 {y : Int} (h : leapB y = false) : st y 4 = 347998 + ny y + bef y 11 := (st_F h).2.2.2.2.1
theorem stF_5 {y : Int} (h : leapB y = false) : st y 5 = 347998 + ny y + bef y 12 := (st_F h).2.2.2.2.2.1
theorem stF_6 {y : Int} (h : leapB y = false) : st y 6 = 347998 + ny y + bef y 1 := (st_F h).2.2.2.2.2.2.1
theorem stF_7 {y : Int} (h : leapB y = false) : st y 7 = 347998 + ny y + bef y 2 := (st_F h).2.2.2.2.2.2.2.1
theorem stF_8 {y : Int} (h : leapB y = false) : st y 8 = 347998 + ny y + bef y 3 := (st_F h).2.2.2.2.2.2.2.2.1
theorem stF_9 {y : Int} (h : leapB y = false) : st y 9 = 347998 + ny y + bef y 4 := (st_F h).2.2.2.2.2.2.2.2.2.1
theorem stF_10 {y : Int} (h : leapB y = false) : st y 10 = 347998 + ny y + bef y 5 := (st_F h).2.2.2.2.2.2.2.2.2.2.1
theorem stF_11 {y : Int} (h : leapB y = false) : st y 11 = 347998 + ny y + bef y 6 := (st_F h).2.2.2.2.2.2.2.2.2.2.2.1
theorem stF_12 {y : Int} (h : leapB y = false) : st y 12 = 347998 + ny y + (ny (y + 1) - ny y) := (st_F h).2.2.2.2.2.2.2.2.2.2.2.2
theorem leaf_F0 {y asked due : Int} (h : leapB y = false) (n0 : 0 ≤ ny y) (n1 : ny y ≤ 1000000000010) (hi : 0 < (ordT y).length) (hx : (ordT y).getD 0 0 = asked → bh y 0 = due) : TF y asked due 0 := by
  refine tf_leaf (m := 7) (lo := -19439) (up := 41916) hi hx n0 n1 (by rw [ord_F h]; rfl) rfl rfl (stF_0 h) (stF_1 h) ?_ ?_ ?_ ?_ <;> clear hx hi n0 n1
  · rw [SF_8 h, SF_7 h]; have hm := ml_7 y; omega
  · rw [SF_7 h]; have h8 := ml_bd y 8; have h9 := ml_bd y 9; omega
  · rw [SF_7 h]; have k := K_F h; have q7 := b7_bd y; omega
  · rw [SF_7 h]; have k := K_F h; have q7 := b7_bd y; omega
theorem leaf_F1 {y asked due : Int} (h : leapB y = false) (n0 : 0 ≤ ny y) (n1 : ny y ≤ 1000000000010) (hi : 1 < (ordT y).length) (hx : (ordT y).getD 1 0 = asked → bh y 1 = due) : TF y asked due 1 := by
  refine tf_leaf (m := 8) (lo := -7272) (up := 54083) hi hx n0 n1 (by rw [ord_F h]; rfl) rfl rfl (stF_1 h) (stF_2 h) ?_ ?_ ?_ ?_ <;> clear hx hi n0 n1
  · rw [SF_9 h, SF_8 h]; omega
  · rw [SF_8 h]; have h8 := ml_bd y 8; have h9 := ml_bd y 9; omega
  · rw [SF_8 h]; have k := K_F h; have q7 := b7_bd y; omega
  · rw [SF_8 h]; have k := K_F h; have q7 := b7_bd y; omega
theorem leaf_F2 {y asked due : Int} (h : leapB y = false) (n0 : 0 ≤ ny y) (n1 : ny y ≤ 1000000000010) (hi : 2 < (ordT y).length) (hx : (ordT y).getD 2 0 = asked → bh y 2 = due) : TF y asked due 2 := by
  refine tf_leaf (m := 9) (lo := -21025) (up := 49846) hi hx n0 n1 (by rw [ord_F h]; rfl) rfl rfl (stF_2 h) (stF_3 h) ?_ ?_ ?_ ?_ <;> clear hx hi n0 n1
  · rw [SF_10 h, SF_9 h]; omega
  · rw [SF_9 h]; have h8 := ml_bd y 8; have h9 := ml_bd y 9; omega
  · rw [SF_9 h]; have k := K_F h; have q7 := b7_bd y; omega
  · rw [SF_9 h]; have k := K_F h; have q7 := b7_bd y; omega
theorem leaf_F3 {y asked due : Int} (h : leapB y = false) (n0 : 0 ≤ ny y) (n1 : ny y ≤ 1000000000010) (hi : 3 < (ordT y).length) (hx : (ordT y).getD 3 0 = asked → bh y 3 = due) : TF y asked due 3 := by
  refine tf_leaf (m := 10) (lo := -11509) (up := 62013) hi hx n0 n1 (by rw [ord_F h]; rfl) rfl rfl (stF_3 h) (stF_4 h) ?_ ?_ ?_ ?_ <;> clear hx hi n0 n1
  · rw [SF_11 h, SF_10 h]; have hm := ml_10 y; omega
  · rw [SF_10 h]; have h8 := ml_bd y 8; have h9 := ml_bd y 9; omega
  · rw [SF_10 h]; have k := K_F h; have q7 := b7_bd y; omega
  · rw [SF_10 h]; have k := K_F h; have q7 := b7_bd y; omega
theorem leaf_F4 {y asked due : Int} (h : leapB y = false) (n0 : 0 ≤ ny y) (n1 : ny y ≤ 1000000000010) (hi : 4 < (ordT y).length) (hx : (ordT y).getD 4 0 = asked → bh y 4 = due) : TF y asked due 4 := by
  refine tf_leaf (m := 11) (lo := -25262) (up := 48260) hi hx n0 n1 (by rw [ord_F h]; rfl) rfl rfl (stF_4 h) (stF_5 h) ?_ ?_ ?_ ?_ <;> clear hx hi n0 n1
  · rw [SF_12 h, SF_11 h]; have hm := ml_11 y; omega
  · rw [SF_11 h]; have h8 := ml_bd y 8; have h9 := ml_bd y 9; omega
  · rw [SF_11 h]; have k := K_F h; have q7 := b7_bd y; omega
  · rw [SF_11 h]; have k := K_F h; have q7 := b7_bd y; omega
theorem leaf_F5 {y asked due : Int} (h : leapB y = false) (n0 : 0 ≤ ny y) (n1 : ny y ≤ 1000000000010) (hi : 5 < (ordT y).length) (hx : (ordT y).getD 5 0 = asked → bh y 5 = due) : TF y asked due 5 := by
  refine tf_leaf (m := 12) (lo := -13095) (up := 60427) hi hx n0 n1 (by rw [ord_F h]; rfl) rfl rfl (stF_5 h) (stF_6 h) ?_ ?_ ?_ ?_ <;> clear hx hi n0 n1
  · rw [SF_1 h, SF_12 h]; have hm := ml_12 y; simp only [h, Bool.false_eq_true, Bool.true_eq_false, false_and, true_and, false_or, or_false] at hm; omega
  · rw [SF_12 h]; have h8 := ml_bd y 8; have h9 := ml_bd y 9; omega
  · rw [SF_12 h]; have k := K_F h; have q7 := b7_bd y; omega
  · rw [SF_12 h]; have k := K_F h; have q7 := b7_bd y; omega
theorem leaf_F6 {y asked due : Int} (h : leapB y = false) (n0 : 0 ≤ ny y) (n1 : ny y ≤ 1000000000010) (hi : 6 < (ordT y).length) (hx : (ordT y).getD 6 0 = asked → bh y 6 = due) : TF y asked due 6 := by
  refine tf_leaf (m := 1) (lo := -14681) (up := 46674) hi hx n0 n1 (by rw [ord_F h]; rfl) rfl rfl (stF_6 h) (stF_7 h) ?_ ?_ ?_ ?_ <;> clear hx hi n0 n1
  · rw [SF_2 h, SF_1 h]; have hm := ml_1 y; omega
  · rw [SF_1 h]; have h8 := ml_bd y 8; have h9 := ml_bd y 9; omega
  · rw [SF_1 h]; have k := K_F h; have q7 := b7_bd y; omega
  · rw [SF_1 h]; have k := K_F h; have q7 := b7_bd y; omega
theorem leaf_F7 {y asked due : Int} (h : leapB y = false) (n0 : 0 ≤ ny y) (n1 : ny y ≤ 1000000000010) (hi : 7 < (ordT y).length) (hx : (ordT y).getD 7 0 = asked → bh y 7 = due) : TF y asked due 7 := by
  refine tf_leaf (m := 2) (lo := -2514) (up := 58841) hi hx n0 n1 (by rw [ord_F h]; rfl) rfl rfl (stF_7 h) (stF_8 h) ?_ ?_ ?_ ?_ <;> clear hx hi n0 n1
  · rw [SF_3 h, SF_2 h]; have hm := ml_2 y; omega
  · rw [SF_2 h]; have h8 := ml_bd y 8; have h9 := ml_bd y 9; omega
  · rw [SF_2 h]; have k := K_F h; have q7 := b7_bd y; omega
  · rw [SF_2 h]; have k := K_F h; have q7 := b7_bd y; omega
theorem leaf_F8 {y asked due : Int} (h : leapB y = false) (n0 : 0 ≤ ny y) (n1 : ny y ≤ 1000000000010) (hi : 8 < (ordT y).length) (hx : (ordT y).getD 8 0 = asked → bh y 8 = due) : TF y asked due 8 := by
  refine tf_leaf (m := 3) (lo := -16267) (up := 45088) hi hx n0 n1 (by rw [ord_F h]; rfl) rfl rfl (stF_8 h) (stF_9 h) ?_ ?_ ?_ ?_ <;> clear hx hi n0 n1
  · rw [SF_4 h, SF_3 h]; have hm := ml_3 y; omega
  · rw [SF_3 h]; have h8 := ml_bd y 8; have h9 := ml_bd y 9; omega
  · rw [SF_3 h]; have k := K_F h; have q7 := b7_bd y; omega
  · rw [SF_3 h]; have k := K_F h; have q7 := b7_bd y; omega
theorem leaf_F9 {y asked due : Int} (h : leapB y = false) (n0 : 0 ≤ ny y) (n1 : ny y ≤ 1000000000010) (hi : 9 < (ordT y).length) (hx : (ordT y).getD 9 0 = asked → bh y 9 = due) : TF y asked due 9 := by
  refine tf_leaf (m := 4) (lo := -4100) (up := 57255) hi hx n0 n1 (by rw [ord_F h]; rfl) rfl rfl (stF_9 h) (stF_10 h) ?_ ?_ ?_ ?_ <;> clear hx hi n0 n1
  · rw [SF_5 h, SF_4 h]; have hm := ml_4 y; omega
  · rw [SF_4 h]; have h8 := ml_bd y 8; have h9 := ml_bd y 9; omega
  · rw [SF_4 h]; have k := K_F h; have q7 := b7_bd y; omega
  · rw [SF_4 h]; have k := K_F h; have q7 := b7_bd y; omega
theorem leaf_F10 {y asked due : Int} (h : leapB y = false) (n0 : 0 ≤ ny y) (n1 : ny y ≤ 1000000000010) (hi : 10 < (ordT y).length) (hx : (ordT y).getD 10 0 = asked → bh y 10 = due) : TF y asked due 10 := by
  refine tf_leaf (m := 5) (lo := -17853) (up := 43502) hi hx n0 n1 (by rw [ord_F h]; rfl) rfl rfl (stF_10 h) (stF_11 h) ?_ ?_ ?_ ?_ <;> clear hx hi n0 n1
  · rw [SF_6 h, SF_5 h]; have hm := ml_5 y; omega
  · rw [SF_5 h]; have h8 := ml_bd y 8; have h9 := ml_bd y 9; omega
  · rw [SF_5 h]; have k := K_F h; have q7 := b7_bd y; omega
  · rw [SF_5 h]; have k := K_F h; have q7 := b7_bd y; omega
theorem leaf_F11 {y asked due : Int} (h : leapB y = false) (n0 : 0 ≤ ny y) (n1 : ny y ≤ 1000000000010) (hi : 11 < (ordT y).length) (hx : (ordT y).getD 11 0 = asked → bh y 11 = due) : TF y asked due 11 := by
  refine tf_leaf (m := 6) (lo := -5686) (up := 55669) hi hx n0 n1 (by rw [ord_F h]; rfl) rfl rfl (stF_11 h) (stF_12 h) ?_ ?_ ?_ ?_ <;> clear hx hi n0 n1
  · rw [SF_6 h]; have k := K_F h; have hm := ml_6 y; omega
  · rw [SF_6 h]; have h8 := ml_bd y 8; have h9 := ml_bd y 9; omega
  · rw [SF_6 h]; have k := K_F h; have q7 := b7_bd y; omega
  · rw [SF_6 h]; have k := K_F h; have q7 := b7_bd y; omega
theorem tfs_F {y asked due : Int} (h : leapB y = false) (h0 : 1 ≤ y) (h1 : y ≤ 1600000000) (hx : ∀ i, i < (ordT y).length → (ordT y).getD i 0 = asked → bh y i = due) : TFs y asked due := by
  intro i hi
  have qn := ny_pos h0 (by omega)
  have hx := hx i hi
  have hi' : i < 12 := by rw [ord_F h] at hi; exact hi
  have hc : i = 0 ∨ i = 1 ∨ i = 2 ∨ i = 3 ∨ i = 4 ∨ i = 5 ∨ i = 6 ∨ i = 7 ∨ i = 8 ∨ i = 9 ∨ i = 10 ∨ i = 11 := by omega
  rcases hc with rfl | rfl | rfl | rfl | rfl | rfl | rfl | rfl | rfl | rfl | rfl | rfl
  · exact leaf_F0 h qn.1 qn.2 hi hx
  · exact leaf_F1 h qn.1 qn.2 hi hx
  · exact leaf_F2 h qn.1 qn.2 hi hx
  · exact leaf_F3 h qn.1 qn.2 hi hx
  · exact leaf_F4 h qn.1 qn.2 hi hx
  · exact leaf_F5 h qn.1 qn.2 hi hx
  · exact leaf_F6 h qn.1 qn.2 hi hx
  · exact leaf_F7 h qn.1 qn.2 hi hx
  · exact leaf_F8 h qn.1 qn.2 hi hx
  · exact leaf_F9 h qn.1 qn.2 hi hx
  · exact leaf_F10 h qn.1 qn.2 hi hx
  · exact leaf_F11 h qn.1 qn.2 hi hx
theorem ord_T {y : Int} (h : leapB y = true) : ordT y = [7, 8, 9, 10, 11, 12, 13, 1, 2, 3, 4, 5, 6] := by unfold ordT; rw [h]; rfl
theorem st_T {y : Int} (h : leapB y = true) : st y 0 = 347998 + ny y + bef y 7 ∧ st y 1 = 347998 + ny y + bef y 8 ∧ st y 2 = 347998 + ny y + bef y 9 ∧ st y 3 = 347998 + ny y + bef y 10 ∧ st y 4 = 347998 + ny y + bef y 11 ∧ st y 5 = 347998 + ny y + bef y 12 ∧ st y 6 = 347998 + ny y + bef y 13 ∧ st y 7 = 347998 + ny y + bef y 1 ∧ st y 8 = 347998 + ny y + bef y 2 ∧ st y 9 = 347998 + ny y + bef y 3 ∧ st y 10 = 347998 + ny y + bef y 4 ∧ st y 11 = 347998 + ny y + bef y 5 ∧ st y 12 = 347998 + ny y + bef y 6 ∧ st y 13 = 347998 + ny y + (ny (y + 1) - ny y) := by
  unfold st; rw [ord_T h]; exact ⟨rfl, rfl, rfl, rfl, rfl, rfl, rfl, rfl, rfl, rfl, rfl, rfl, rfl, rfl⟩
theorem S_T {y : Int} (h : leapB y = true) : bef y 7 = 0 ∧ bef y 8 = 30 ∧ bef y 9 = 30 + ml y 8 ∧ bef y 10 = 30 + ml y 8 + ml y 9 ∧ bef y 11 = 59 + ml y 8 + ml y 9 ∧ bef y 12 = 89 + ml y 8 + ml y 9 ∧ bef y 13 = 119 + ml y 8 + ml y 9 ∧ bef y 1 = 148 + ml y 8 + ml y 9 ∧ bef y 2 = 178 + ml y 8 + ml y 9 ∧ bef y 3 = 207 + ml y 8 + ml y 9 ∧ bef y 4 = 237 + ml y 8 + ml y 9 ∧ bef y 5 = 266 + ml y 8 + ml y 9 ∧ bef y 6 = 296 + ml y 8 + ml y 9 := by
  have m12 := ml_12 y
  simp only [h, Bool.false_eq_true, Bool.true_eq_false, false_and, true_and, false_or, or_false] at m12
  obtain ⟨a0, a1, a2, a3, a4, a5, a6, a7⟩ := sm_7 y
  obtain ⟨b0, b1, b2, b3, b4, b5⟩ := sm_1 y
  obtain ⟨c7, c8, c9, c10, c11, c12, c13⟩ := bef_hi y
  obtain ⟨d1, d2, d3, d4, d5, d6⟩ := bef_loT h
  rw [c7, c8, c9, c10, c11, c12, c13, d1, d2, d3, d4, d5, d6, a0, a1, a2, a3, a4, a5, a6, a7, b0, b1, b2, b3, b4, b5, m12]
  refine ⟨?_, ?_, ?_, ?_, ?_, ?_, ?_, ?_, ?_, ?_, ?_, ?_, ?_⟩ <;> omega
theorem K_T {y : Int} (h : leapB y = true) : (ny (y + 1) - ny y = 383 ∧ ml y 8 = 29 ∧ ml y 9 = 29 ∧ 3830 ≤ b7 y) ∨ (ny (y + 1) - ny y = 384 ∧ ml y 8 = 29 ∧ ml y 9 = 30 ∧ b7 y ≤ 39265) ∨ (ny (y + 1) - ny y = 385 ∧ ml y 8 = 30 ∧ ml y 9 = 30 ∧ b7 y ≤ 13345) := by
  have k0 := kind y
  have m8 := ml_8 y
  have m9 := ml_9 y
  unfold Kind at k0
  simp only [h, Bool.false_eq_true, Bool.true_eq_false, false_and, true_and, false_or, or_false] at k0
  rcases k0 with ⟨e, k⟩ | ⟨e, k⟩ | ⟨e, k⟩ <;> rw [e] at m8 m9 <;> simp at m8 m9 <;> simp [e, k, m8, m9]
theorem ST_7 {y : Int} (h : leapB y = true) : bef y 7 = 0 := (S_T h).1
theorem ST_8 {y : Int} (h : leapB y = true) : bef y 8 = 30 := (S_T h).2.1
theorem ST_9 {y : Int} (h : leapB y = true) : bef y 9 = 30 + ml y 8 := (S_T h).2.2.1
theorem ST_10 {y : Int} (h : leapB y = true) : bef y 10 = 30 + ml y 8 + ml y 9 := (S_T h).2.2.2.1
theorem ST_11 {y : Int} (h : leapB y = true) : bef y 11 = 59 + ml y 8 + ml y 9 := (S_T h).2.2.2.2.1
theorem ST_12 {y : Int} (h : leapB y = true) : bef y 12 = 89 + ml y 8 + ml y 9 := (S_T h).2.2.2.2.2.1
theorem ST_13 {y : Int} (h : leapB y = true) : bef y 13 = 119 + ml y 8 + ml y 9 := (S_T h).2.2.2.2.2.2.1
theorem ST_1 {y : Int} (h : leapB y = true) : bef y 1 = 148 + ml y 8 + ml y 9 := (S_T h).2.2.2.2.2.2.2.1
theorem ST_2 {y : Int} (h : leapB y = true) : bef y 2 = 178 + ml y 8 + ml y 9 := (S_T h).2.2.2.2.2.2.2.2.1
theorem ST_3 {y : Int} (h : leapB y = true) : bef y 3 = 207 + ml y 8 + ml y 9 := (S_T h).2.2.2.2.2.2.2.2.2.1
theorem ST_4 {y : Int} (h : leapB y = true) : bef y 4 = 237 + ml y 8 + ml y 9 := (S_T h).2.2.2.2.2.2.2.2.2.2.1
theorem ST_5 {y : Int} (h : leapB y = true) : bef y 5 = 266 + ml y 8 + ml y 9 := (S_T h).2.2.2.2.2.2.2.2.2.2.2.1
theorem ST_6 {y : Int} (h : leapB y = true) : bef y 6 = 296 + ml y 8 + ml y 9 := (S_T h).2.2.2.2.2.2.2.2.2.2.2.2
theorem stT_0 {y : Int} (h : leapB y = true) : st y 0 = 347998 + ny y + bef y 7 := (st_T h).1
theorem stT_1 {y : Int} (h : leapB y = true) : st y 1 = 347998 + ny y + bef y 8 := (st_T h).2.1
theorem stT_2 {y : Int} (h : leapB y = true) : st y 2 = 347998 + ny y + bef y 9 := (st_T h).2.2.1
theorem stT_3 {y : Int} (h : leapB y = true) : st y 3 = 347998 + ny y + bef y 10 := (st_T h).2.2.2.1
theorem stT_4 {y : Int} (h : leapB y = true) : st y 4 = 347998 + ny y + bef y 11 := (st_T h).2.2.2.2.1
theorem stT_5 {y : Int} (h : leapB y = true) : st y 5 = 347998 + ny y + bef y 12 := (st_T h).2.2.2.2.2.1
theorem stT_6 {y : Int} (h : leapB y = true) : st y 6 = 347998 + ny y + bef y 13 := (st_T h).2.2.2.2.2.2.1
theorem stT_7 {y : Int} (h : leapB y = true) : st y 7 = 347998 + ny y + bef y 1 := (st_T h).2.2.2.2.2.2.2.1
theorem stT_8 {y : Int} (h : leapB y = true) : st y 8 = 347998 + ny y + bef y 2 := (st_T h).2.2.2.2.2.2.2.2.1
theorem stT_9 {y : Int} (h : leapB y = true) : st y 9 = 347998 + ny y + bef y 3 := (st_T h).2.2.2.2.2.2.2.2.2.1
theorem stT_10 {y : Int} (h : leapB y = true) : st y 10 = 347998 + ny y + bef y 4 := (st_T h).2.2.2.2.2.2.2.2.2.2.1
theorem stT_11 {y : Int} (h : leapB y = true) : st y 11 = 347998 + ny y + bef y 5 := (st_T h).2.2.2.2.2.2.2.2.2.2.2.1
theorem stT_12 {y : Int} (h : leapB y = true) : st y 12 = 347998 + ny y + bef y 6 := (st_T h).2.2.2.2.2.2.2.2.2.2.2.2.1
theorem stT_13 {y : Int} (h : leapB y = true) : st y 13 = 347998 + ny y + (ny (y + 1) - ny y) := (st_T h).2.2.2.2.2.2.2.2.2.2.2.2.2
theorem leaf_T0 {y asked due : Int} (h : leapB y = true) (n0 : 0 ≤ ny y) (n1 : ny y ≤ 1000000000010) (hi : 0 < (ordT y).length) (hx : (ordT y).getD 0 0 = asked → bh y 0 = due) : TF y asked due 0 := by
  refine tf_leaf (m := 7) (lo := -19439) (up := 41916) hi hx n0 n1 (by rw [ord_T h]; rfl) rfl rfl (stT_0 h) (stT_1 h) ?_ ?_ ?_ ?_ <;> clear hx hi n0 n1
  · rw [ST_8 h, ST_7 h]; have hm := ml_7 y; omega
  · rw [ST_7 h]; have h8 := ml_bd y 8; have h9 := ml_bd y 9; omega
  · rw [ST_7 h]; have k := K_T h; have q7 := b7_bd y; omega
  · rw [ST_7 h]; have k := K_T h; have q7 := b7_bd y; omega
theorem leaf_T1 {y asked due : Int} (h : leapB y = true) (n0 : 0 ≤ ny y) (n1 : ny y ≤ 1000000000010) (hi : 1 < (ordT y).length) (hx : (ordT y).getD 1 0 = asked → bh y 1 = due) : TF y asked due 1 := by
  refine tf_leaf (m := 8) (lo := -7272) (up := 54083) hi hx n0 n1 (by rw [ord_T h]; rfl) rfl rfl (stT_1 h) (stT_2 h) ?_ ?_ ?_ ?_ <;> clear hx hi n0 n1
  · rw [ST_9 h, ST_8 h]; omega
  · rw [ST_8 h]; have h8 := ml_bd y 8; have h9 := ml_bd y 9; omega
  · rw [ST_8 h]; have k := K_T h; have q7 := b7_bd y; omega
  · rw [ST_8 h]; have k := K_T h; have q7 := b7_bd y; omega
theorem leaf_T2 {y asked due : Int} (h : leapB y = true) (n0 : 0 ≤ ny y) (n1 : ny y ≤ 1000000000010) (hi : 2 < (ordT y).length) (hx : (ordT y).getD 2 0 = asked → bh y 2 = due) : TF y asked due 2 := by
  refine tf_leaf (m := 9) (lo := -21025) (up := 49846) hi hx n0 n1 (by rw [ord_T h]; rfl) rfl rfl (stT_2 h) (stT_3 h) ?_ ?_ ?_ ?_ <;> clear hx hi n0 n1
  · rw [ST_10 h, ST_9 h]; omega
  · rw [ST_9 h]; have h8 := ml_bd y 8; have h9 := ml_bd y 9; omega
  · rw [ST_9 h]; have k := K_T h; have q7 := b7_bd y; omega
  · rw [ST_9 h]; have k := K_T h; have q7 := b7_bd y; omega
theorem leaf_T3 {y asked due : Int} (h : leapB y = true) (n0 : 0 ≤ ny y) (n1 : ny y ≤ 1000000000010) (hi : 3 < (ordT y).length) (hx : (ordT y).getD 3 0 = asked → bh y 3 = due) : TF y asked due 3 := by
  refine tf_leaf (m := 10) (lo := -11509) (up := 62013) hi hx n0 n1 (by rw [ord_T h]; rfl) rfl rfl (stT_3 h) (stT_4 h) ?_ ?_ ?_ ?_ <;> clear hx hi n0 n1
  · rw [ST_11 h, ST_10 h]; have hm := ml_10 y; omega
  · rw [ST_10 h]; have h8 := ml_bd y 8; have h9 := ml_bd y 9; omega
  · rw [ST_10 h]; have k := K_T h; have q7 := b7_bd y; omega
  · rw [ST_10 h]; have k := K_T h; have q7 := b7_bd y; omega
theorem leaf_T4 {y asked due : Int} (h : leapB y = true) (n0 : 0 ≤ ny y) (n1 : ny y ≤ 1000000000010) (hi : 4 < (ordT y).length) (hx : (ordT y).getD 4 0 = asked → bh y 4 = due) : TF y asked due 4 := by
  refine tf_leaf (m := 11) (lo := -25262) (up := 48260) hi hx n0 n1 (by rw [ord_T h]; rfl) rfl rfl (stT_4 h) (stT_5 h) ?_ ?_ ?_ ?_ <;> clear hx hi n0 n1
  · rw [ST_12 h, ST_11 h]; have hm := ml_11 y; omega
  · rw [ST_11 h]; have h8 := ml_bd y 8; have h9 := ml_bd y 9; omega
  · rw [ST_11 h]; have k := K_T h; have q7 := b7_bd y; omega
  · rw [ST_11 h]; have k := K_T h; have q7 := b7_bd y; omega
theorem leaf_T5 {y asked due : Int} (h : leapB y = true) (n0 : 0 ≤ ny y) (n1 : ny y ≤ 1000000000010) (hi : 5 < (ordT y).length) (hx : (ordT y).getD 5 0 = asked → bh y 5 = due) : TF y asked due 5 := by
  refine tf_leaf (m := 12) (lo := -13095) (up := 60427) hi hx n0 n1 (by rw [ord_T h]; rfl) rfl rfl (stT_5 h) (stT_6 h) ?_ ?_ ?_ ?_ <;> clear hx hi n0 n1
  · rw [ST_13 h, ST_12 h]; have hm := ml_12 y; simp only [h, Bool.false_eq_true, Bool.true_eq_false, false_and, true_and, false_or, or_false] at hm; omega
  · rw [ST_12 h]; have h8 := ml_bd y 8; have h9 := ml_bd y 9; omega
  · rw [ST_12 h]; have k := K_T h; have q7 := b7_bd y; omega
  · rw [ST_12 h]; have k := K_T h; have q7 := b7_bd y; omega
theorem leaf_T6 {y asked due : Int} (h : leapB y = true) (n0 : 0 ≤ ny y) (n1 : ny y ≤ 1000000000010) (hi : 6 < (ordT y).length) (hx : (ordT y).getD 6 0 = asked → bh y 6 = due) : TF y asked due 6 := by
  refine tf_leaf (m := 13) (lo := -928) (up := 60427) hi hx n0 n1 (by rw [ord_T h]; rfl) rfl rfl (stT_6 h) (stT_7 h) ?_ ?_ ?_ ?_ <;> clear hx hi n0 n1
  · rw [ST_1 h, ST_13 h]; have hm := ml_13 y; omega
  · rw [ST_13 h]; have h8 := ml_bd y 8; have h9 := ml_bd y 9; omega
  · rw [ST_13 h]; have k := K_T h; have q7 := b7_bd y; omega
  · rw [ST_13 h]; have k := K_T h; have q7 := b7_bd y; omega
theorem leaf_T7 {y asked due : Int} (h : leapB y = true) (n0 : 0 ≤ ny y) (n1 : ny y ≤ 1000000000010) (hi : 7 < (ordT y).length) (hx : (ordT y).getD 7 0 = asked → bh y 7 = due) : TF y asked due 7 := by
  refine tf_leaf (m := 1) (lo := -14681) (up := 46674) hi hx n0 n1 (by rw [ord_T h]; rfl) rfl rfl (stT_7 h) (stT_8 h) ?_ ?_ ?_ ?_ <;> clear hx hi n0 n1
  · rw [ST_2 h, ST_1 h]; have hm := ml_1 y; omega
  · rw [ST_1 h]; have h8 := ml_bd y 8; have h9 := ml_bd y 9; omega
  · rw [ST_1 h]; have k := K_T h; have q7 := b7_bd y; omega
  · rw [ST_1 h]; have k := K_T h; have q7 := b7_bd y; omega
theorem leaf_T8 {y asked due : Int} (h : leapB y = true) (n0 : 0 ≤ ny y) (n1 : ny y ≤ 1000000000010) (hi : 8 < (ordT y).length) (hx : (ordT y).getD 8 0 = asked → bh y 8 = due) : TF y asked due 8 := by
  refine tf_leaf (m := 2) (lo := -2514) (up := 58841) hi hx n0 n1 (by rw [ord_T h]; rfl) rfl rfl (stT_8 h) (stT_9 h) ?_ ?_ ?_ ?_ <;> clear hx hi n0 n1
  · rw [ST_3 h, ST_2 h]; have hm := ml_2 y; omega
  · rw [ST_2 h]; have h8 := ml_bd y 8; have h9 := ml_bd y 9; omega
  · rw [ST_2 h]; have k := K_T h; have q7 := b7_bd y; omega
  · rw [ST_2 h]; have k := K_T h; have q7 := b7_bd y; omega
theorem leaf_T9 {y asked due : Int} (h : leapB y = true) (n0 : 0 ≤ ny y) (n1 : ny y ≤ 1000000000010) (hi : 9 < (ordT y).length) (hx : (ordT y).getD 9 0 = asked → bh y 9 = due) : TF y asked due 9 := by
  refine tf_leaf (m := 3) (lo := -16267) (up := 45088) hi hx n0 n1 (by rw [ord_T h]; rfl) rfl rfl (stT_9 h) (stT_10 h) ?_ ?_ ?_ ?_ <;> clear hx hi n0 n1
  · rw [ST_4 h, ST_3 h]; have hm := ml_3 y; omega
  · rw [ST_3 h]; have h8 := ml_bd y 8; have h9 := ml_bd y 9; omega
  · rw [ST_3 h]; have k := K_T h; have q7 := b7_bd y; omega
  · rw [ST_3 h]; have k := K_T h; have q7 := b7_bd y; omega
theorem leaf_T10 {y asked due : Int} (h : leapB y = true) (n0 : 0 ≤ ny y) (n1 : ny y ≤ 1000000000010) (hi : 10 < (ordT y).length) (hx : (ordT y).getD 10 0 = asked → bh y 10 = due) : TF y asked due 10 := by
  refine tf_leaf (m := 4) (lo := -4100) (up := 57255) hi hx n0 n1 (by rw [ord_T h]; rfl) rfl rfl (stT_10 h) (stT_11 h) ?_ ?_ ?_ ?_ <;> clear hx hi n0 n1
  · rw [ST_5 h, ST_4 h]; have hm := ml_4 y; omega
  · rw [ST_4 h]; have h8 := ml_bd y 8; have h9 := ml_bd y 9; omega
  · rw [ST_4 h]; have k := K_T h; have q7 := b7_bd y; omega
  · rw [ST_4 h]; have k := K_T h; have q7 := b7_bd y; omega
theorem leaf_T11 {y asked due : Int} (h : leapB y = true) (n0 : 0 ≤ ny y) (n1 : ny y ≤ 1000000000010) (hi : 11 < (ordT y).length) (hx : (ordT y).getD 11 0 = asked → bh y 11 = due) : TF y asked due 11 := by
  refine tf_leaf (m := 5) (lo := -17853) (up := 43502) hi hx n0 n1 (by rw [ord_T h]; rfl) rfl rfl (stT_11 h) (stT_12 h) ?_ ?_ ?_ ?_ <;> clear hx hi n0 n1
  · rw [ST_6 h, ST_5 h]; have hm := ml_5 y; omega
  · rw [ST_5 h]; have h8 := ml_bd y 8; have h9 := ml_bd y 9; omega
  · rw [ST_5 h]; have k := K_T h; have q7 := b7_bd y; omega
  · rw [ST_5 h]; have k := K_T h; have q7 := b7_bd y; omega
theorem leaf_T12 {y asked due : Int} (h : leapB y = true) (n0 : 0 ≤ ny y) (n1 : ny y ≤ 1000000000010) (hi : 12 < (ordT y).length) (hx : (ordT y).getD 12 0 = asked → bh y 12 = due) : TF y asked due 12 := by
  refine tf_leaf (m := 6) (lo := -5686) (up := 55669) hi hx n0 n1 (by rw [ord_T h]; rfl) rfl rfl (stT_12 h) (stT_13 h) ?_ ?_ ?_ ?_ <;> clear hx hi n0 n1
  · rw [ST_6 h]; have k := K_T h; have hm := ml_6 y; omega
  · rw [ST_6 h]; have h8 := ml_bd y 8; have h9 := ml_bd y 9; omega
  · rw [ST_6 h]; have k := K_T h; have q7 := b7_bd y; omega
  · rw [ST_6 h]; have k := K_T h; have q7 := b7_bd y; omega
theorem tfs_T {y asked due : Int} (h : leapB y = true) (h0 : 1 ≤ y) (h1 : y ≤ 1600000000) (hx : ∀ i, i < (ordT y).length → (ordT y).getD i 0 = asked → bh y i = due) : TFs y asked due := by
  intro i hi
  have qn := ny_pos h0 (by omega)
  have hx := hx i hi
  have hi' : i < 13 := by rw [ord_T h] at hi; exact hi
  have hc : i = 0 ∨ i = 1 ∨ i = 2 ∨ i = 3 ∨ i = 4 ∨ i = 5 ∨ i = 6 ∨ i = 7 ∨ i = 8 ∨ i = 9 ∨ i = 10 ∨ i = 11 ∨ i = 12 := by omega
  rcases hc with rfl | rfl | rfl | rfl | rfl | rfl | rfl | rfl | rfl | rfl | rfl | rfl | rfl
  · exact leaf_T0 h qn.1 qn.2 hi hx
  · exact leaf_T1 h qn.1 qn.2 hi hx
  · exact leaf_T2 h qn.1 qn.2 hi hx
  · exact leaf_T3 h qn.1 qn.2 hi hx
  · exact leaf_T4 h qn.1 qn.2 hi hx
  · exact leaf_T5 h qn.1 qn.2 hi hx
  · exact leaf_T6 h qn.1 qn.2 hi hx
  · exact leaf_T7 h qn.1 qn.2 hi hx
  · exact leaf_T8 h qn.1 qn.2 hi hx
  · exact leaf_T9 h qn.1 qn.2 hi hx
  · exact leaf_T10 h qn.1 qn.2 hi hx
  · exact leaf_T11 h qn.1 qn.2 hi hx
  · exact leaf_T12 h qn.1 qn.2 hi hx
theorem tfs_of {y asked due : Int} (h0 : 1 ≤ y) (h1 : y ≤ 1600000000) (hx : ∀ i, i < (ordT y).length → (ordT y).getD i 0 = asked → bh y i = due) : TFs y asked due := by
  cases h : leapB y
  · exact tfs_F h h0 h1 hx
  · exact tfs_T h h0 h1 hx
def YearCase (Y A D : Int) : Prop := 1 ≤ Y ∧ Y ≤ 1600000000 ∧ TFs Y A D
theorem yc_0 (a : Int) : YearCase (1 + a.fmod 1000000000) 0 0 := by
  rw [fmod_pos a (by decide)]
  refine ⟨by omega, by omega, tfs_of (by omega) (by omega) ?_⟩
  intro i hi h
  have := ord_bd _ i hi
  omega
theorem lows : ∀ m : Nat, m < 14 → ∀ i, i < 13 → (ordT (lowY.getD m 0)).getD i 0 = (m : Int) → 1 ≤ m → bh (lowY.getD m 0) i = lowT.getD m 0 := by decide +kernel
theorem highs : ∀ m : Nat, m < 14 → ∀ i, i < 13 → (ordT (highY.getD m 0)).getD i 0 = (m : Int) → 1 ≤ m → bh (highY.getD m 0) i = highT.getD m 0 := by decide +kernel
theorem lowY_bd : ∀ m : Nat, m < 14 → 1 ≤ m → 1 ≤ lowY.getD m 0 ∧ lowY.getD m 0 ≤ 700000 := by decide
theorem highY_bd : ∀ m : Nat, m < 14 → 1 ≤ m → 1 ≤ highY.getD m 0 ∧ highY.getD m 0 ≤ 700000 := by decide
theorem yc_low {v u : Int} (a c : Int) (hv : v = lowY.getD (1 + c.fmod 13).toNat 0) (hu : u = lowT.getD (1 + c.fmod 13).toNat 0) : YearCase (v + 689472 * a.fmod 1000) (1 + c.fmod 13) u := by
  subst hv hu
  rw [fmod_pos a (by decide), fmod_pos c (by decide)]
  have e : ((1 + c % 13).toNat : Int) = 1 + c % 13 := by omega
  generalize (1 + c % 13).toNat = m at *
  have hb := lowY_bd m (by omega) (by omega)
  refine ⟨by omega, by omega, tfs_of (by omega) (by omega) ?_⟩
  intro i hi h
  have hl := ord_len (lowY.getD m 0)
  rw [ord_per] at hi h
  rw [bh_per]
  exact lows m (by omega) i (by omega) (by rw [h, e]) (by omega)
theorem yc_high {v u : Int} (a c : Int) (hv : v = highY.getD (1 + c.fmod 13).toNat 0) (hu : u = highT.getD (1 + c.fmod 13).toNat 0) : YearCase (v + 689472 * a.fmod 1000) (1 + c.fmod 13) u := by
  subst hv hu
  rw [fmod_pos a (by decide), fmod_pos c (by decide)]
  have e : ((1 + c % 13).toNat : Int) = 1 + c % 13 := by omega
  generalize (1 + c % 13).toNat = m at *
  have hb := highY_bd m (by omega) (by omega)
  refine ⟨by omega, by omega, tfs_of (by omega) (by omega) ?_⟩
  intro i hi h
  have hl := ord_len (highY.getD m 0)
  rw [ord_per] at hi h
  rw [bh_per]
  exact highs m (by omega) i (by omega) (by rw [h, e]) (by omega)
end Mine
end

open PySem PySem.W PyProof.Rows
set_option Elab.async false
set_option maxRecDepth 100000 
set_option maxHeartbeats 8000000 
namespace Mine
theorem nonews {h₀ h : Heap} {L : Addr} : News h₀ L h [] := fun _ hp => nomatch hp
theorem year_case (y asked due : Int) (t t1 t2 : Tok) (h : YearCase y asked due) : Cl0 8 64 175 [.int y t, .int asked t1, .int due t2] (IsB true) := year_ok y asked due t t1 t2 h.1 h.2.1 h.2.2
theorem mon_bd (c : Int) : 1 ≤ 1 + c.fmod 13 ∧ 1 + c.fmod 13 ≤ 13 := by rw [fmod_pos c (by decide)]; omega
end Mine
open Mine
local macro_rules | `(tactic| walk_at "call ref") => `(tactic| (k_here; k_dflt (first
  | (refine' clT_use low_ok ?k1 ?k2 ?k3 ?k4 ?k5 ?kK ?kd ?ku ?_; (case k1 => k_asm); (case k2 => k_asm); (case k3 => k_asm); (case k4 => k_asm); (case k5 => k_asm); (case kK => first | exact rfl | assumption); (case kd => ktr_room); (case ku => ktr_units); intro l9 xs9 h9 tk9 hl9 hx9 F9 N9; (try dsimp only); (try k_fold); (try k_sweep))
  | (refine' clT_use high_ok ?k1 ?k2 ?k3 ?k4 ?k5 ?kK ?kd ?ku ?_; (case k1 => k_asm); (case k2 => k_asm); (case k3 => k_asm); (case k4 => k_asm); (case k5 => k_asm); (case kK => first | exact rfl | assumption); (case kd => ktr_room); (case ku => ktr_units); intro l9 xs9 h9 tk9 hl9 hx9 F9 N9; (try dsimp only); (try k_fold); (try k_sweep))
  | (refine' clT_use lowy_ok ?k1 ?k2 ?k3 ?k4 ?k5 ?kK ?kd ?ku ?_; (case k1 => k_asm); (case k2 => k_asm); (case k3 => k_asm); (case k4 => k_asm); (case k5 => k_asm); (case kK => first | exact rfl | assumption); (case kd => ktr_room); (case ku => ktr_units); intro l9 xs9 h9 tk9 hl9 hx9 F9 N9; (try dsimp only); (try k_fold); (try k_sweep))
  | (refine' clT_use highy_ok ?k1 ?k2 ?k3 ?k4 ?k5 ?kK ?kd ?ku ?_; (case k1 => k_asm); (case k2 => k_asm); (case k3 => k_asm); (case k4 => k_asm); (case k5 => k_asm); (case kK => first | exact rfl | assumption); (case kd => ktr_room); (case ku => ktr_units); intro l9 xs9 h9 tk9 hl9 hx9 F9 N9; (try dsimp only); (try k_fold); (try k_sweep))
  | (refine' cl0_use (year_case _ _ _ _ _ _ ?p0) ?k1 ?k2 ?k3 ?k4 ?k5 ?kK ?kd ?ku ?_; (case p0 => first | exact yc_0 _ | exact yc_low _ _ (by assumption) (by assumption) | exact yc_high _ _ (by assumption) (by assumption)); (case k1 => k_asm); (case k2 => k_asm); (case k3 => k_asm); (case k4 => exact nonews); (case k5 => k_asm); (case kK => first | exact rfl | assumption); (case kd => ktr_room); (case ku => ktr_units); intro v9 h9 tk9 hv9 F9 N9; subst hv9; (try dsimp only); (try k_fold); (try k_sweep)))))
local macro_rules | `(tactic| walk_at "subscriptTail") => `(tactic| (k_here; (with_reducible show wpAny _ _ (subscriptTail _ _ (Value.ref _) (Value.int (1 + Int.fmod _ _) _)) _ _ _); (with_unfolding_all (refine' my_tab ?k1 ?k2 ?kn ?k3 ?k4 ?_ ?k6; (case k1 => assumption); (case k2 => assumption); (case kn => rfl); (case k3 => exact Int.le_trans (by decide) (mon_bd _).1); (case k4 => exact Int.lt_of_le_of_lt (mon_bd _).2 (by decide)); (case k6 => with_unfolding_all rfl); k_whole; intro v8 t8 hv8))))
theorem PySem.Challenge.cw_bd6013_01_holds : PySem.Challenge.rw_bd6013_01.Holds :=
  hd1 (by
    k_go0
    all_goals (try k_fold)
    k_steps)

