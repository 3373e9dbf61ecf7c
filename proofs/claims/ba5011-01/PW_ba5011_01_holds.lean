import PyProof.Rows.All
import Wide.All
import OpenK.AllK
import Wide.FinOn
import PySem.Challenge.RW_ba5011_01
set_option Elab.async false
set_option maxRecDepth 100000

/-! Part 1: floats that are whole numbers of halves: sums, differences, remainders and floors of quotients are exact. -/
namespace Mine
open PySem PySem.Float64

/-- The float that is k halves. -/
def HF (k : Int) : UInt64 := ofFrac (decide (k < 0)) k.natAbs 2

theorem V_inj {t u : Nat} (h : V t = V u) : t = u := by
  rcases Nat.lt_trichotomy t u with c | c | c
  · have := V_lt c; omega
  · exact c
  · have := V_lt c; omega

/-- every a below 2^53 times a power of two is some V t -/
theorem V_has {a c : Nat} (ha : a < 2 ^ 53) (h1 : 52 ≤ c) (h2 : c ≤ 1990) : ∃ t, t < infMag ∧ V t = a * 2 ^ c := by
  rcases Nat.eq_zero_or_pos a with rfl | hp
  · exact ⟨0, by decide, by rw [V_zero]; simp⟩
  · have hL := Nat.log2_self_le (n := a) (by omega)
    have hU := Nat.lt_log2_self (n := a)
    have hl : a.log2 < 53 := (Nat.log2_lt (by omega)).mpr ha
    have e1 : (2:Nat) ^ 52 = 2 ^ a.log2 * 2 ^ (52 - a.log2) := by rw [← Nat.pow_add]; congr 1; omega
    have e2 : (2:Nat) ^ 53 = 2 ^ (a.log2 + 1) * 2 ^ (52 - a.log2) := by rw [← Nat.pow_add]; congr 1; omega
    have q1 : 2 ^ 52 ≤ a * 2 ^ (52 - a.log2) := by rw [e1]; exact Nat.mul_le_mul_right _ hL
    have q2 : a * 2 ^ (52 - a.log2) < 2 ^ 53 := by rw [e2]; exact Nat.mul_lt_mul_of_pos_right hU (Nat.two_pow_pos _)
    refine ⟨(c - (52 - a.log2)) * 2 ^ 52 + a * 2 ^ (52 - a.log2), ?_, ?_⟩
    · have hi : infMag = 2047 * 2 ^ 52 := rfl
      rw [hi]; omega
    · rw [V_at (Nat.le_of_lt q2) (.inl q1), Nat.mul_assoc, ← Nat.pow_add]
      congr 2; omega

theorem small_over {W D : Nat} (h : 2 * W < D * 2 ^ 2045) : ¬ D * ((2 ^ 54 - 1) * 2 ^ 2045) ≤ 2 * W := by
  intro h2
  have : D * 2 ^ 2045 ≤ D * ((2 ^ 54 - 1) * 2 ^ 2045) := Nat.mul_le_mul_left _ (Nat.le_mul_of_pos_left _ (by decide))
  omega
theorem dist_zero {a b : Nat} (h : dist a b ≤ 0) : a = b := by unfold dist at h; omega
theorem dist_self (a : Nat) : dist a a = 0 := by unfold dist; omega

theorem right_exact {r : UInt64} {neg : Bool} {a c t : Nat} (ha : a < 2 ^ 53) (hc : c ≤ 1990) (R : Right r neg (a * 2 ^ c) 1) (ht : V t = a * 2 ^ c) : r = pack neg t := by
  obtain ⟨u, rfl, hle, hov, hn⟩ := R
  have hb : a * 2 ^ c < 2 ^ 53 * 2 ^ c := Nat.mul_lt_mul_of_pos_right ha (Nat.two_pow_pos _)
  have hb2 : (2:Nat) ^ 53 * 2 ^ c ≤ 2 ^ 2044 := by rw [← Nat.pow_add]; exact Nat.pow_le_pow_right (by decide) (by omega)
  have hb3 : (2:Nat) ^ 2045 = 2 * 2 ^ 2044 := Nat.pow_succ'
  have hlt : u < infMag := by
    have : ¬ u = infMag := fun e => small_over (W := a * 2 ^ c) (D := 1) (by rw [hb3]; omega) (hov.mp e)
    omega
  have h := (hn hlt t).1
  rw [Nat.one_mul, Nat.one_mul, ht, dist_self] at h
  rw [V_inj ((dist_zero h).symm.trans ht.symm)]

theorem HF_right (k : Int) : Right (HF k) (decide (k < 0)) (k.natAbs * 2 ^ 1073) 1 := by
  unfold HF
  refine ofFrac_right (by decide) ?_ (by decide)
  rw [Nat.mul_one, show (2:Nat) ^ 1074 = 2 ^ 1073 * 2 from Nat.pow_succ 2 1073, Nat.mul_assoc]

theorem HF_of_right {r : UInt64} {k : Int} (hk : k.natAbs < 2 ^ 53) (R : Right r (decide (k < 0)) (k.natAbs * 2 ^ 1073) 1) : r = HF k := by
  obtain ⟨t, _, ht⟩ := V_has (c := 1073) hk (by decide) (by decide)
  rw [right_exact hk (by decide) R ht, right_exact hk (by decide) (HF_right k) ht]

theorem HF_dec {k : Int} (hk : k.natAbs < 2 ^ 53) : ∃ m e, decode (HF k) = .fin (decide (k < 0)) m e ∧ val (HF k) = k * 2 ^ 1073 := by
  obtain ⟨t, hlt, ht⟩ := V_has (c := 1073) hk (by decide) (by decide)
  have e := right_exact hk (by decide) (HF_right k) ht
  obtain ⟨m, x, hd, hv⟩ := decode_pack (decide (k < 0)) hlt
  refine ⟨m, x, by rw [e, hd], ?_⟩
  rw [e, val_pack _ hlt, ht, sgn_mul]
  have : sgn (decide (k < 0)) k.natAbs = k := by
    unfold sgn
    by_cases h : k < 0
    · simp [h]; omega
    · simp [h]; omega
  rw [this, show (((2 ^ 1073 : Nat)) : Int) = 2 ^ 1073 by simp]

theorem HF_zero : HF 0 = zero false := by unfold HF zero ofFrac; rfl
theorem P_pos : (0 : Int) < 2 ^ 1073 := Int.pow_pos (by decide)
theorem mulP_zero {a : Int} (h : a * 2 ^ 1073 = 0) : a = 0 := by
  rcases Int.mul_eq_zero.mp h with h | h
  · exact h
  · exact absurd h (Int.ne_of_gt P_pos)
theorem mulP_neg (a : Int) : decide (a * 2 ^ 1073 < 0) = decide (a < 0) := by
  apply decide_eq_decide.mpr
  constructor
  · intro h
    by_cases h2 : a < 0
    · exact h2
    · have := Int.mul_nonneg (show 0 ≤ a by omega) (Int.le_of_lt P_pos); omega
  · intro h; exact Int.mul_neg_of_neg_of_pos h P_pos
theorem mulP_abs (a : Int) : (a * 2 ^ 1073).natAbs = a.natAbs * 2 ^ 1073 := by
  rw [Int.natAbs_mul, Int.natAbs_pow]; rfl

theorem add_HF {a b : Int} (ha : a.natAbs < 2 ^ 53) (hb : b.natAbs < 2 ^ 53) (hc : (a + b).natAbs < 2 ^ 53) : Float64.add (HF a) (HF b) = HF (a + b) := by
  obtain ⟨m, e, hd, hv⟩ := HF_dec ha
  obtain ⟨k, f, hd', hv'⟩ := HF_dec hb
  have h := add_right hd hd'
  rw [hv, hv', ← Int.add_mul] at h
  by_cases hz : a + b = 0
  · rw [h.1 (by rw [hz, Int.zero_mul]), hz, HF_zero]
    congr 1
    by_cases h1 : a < 0 <;> by_cases h2 : b < 0 <;> simp [h1, h2]
    omega
  · have R := h.2 (fun c => hz (mulP_zero c))
    rw [mulP_neg, mulP_abs] at R
    exact HF_of_right hc R
theorem sub_HF {a b : Int} (ha : a.natAbs < 2 ^ 53) (hb : b.natAbs < 2 ^ 53) (hc : (a - b).natAbs < 2 ^ 53) : Float64.sub (HF a) (HF b) = HF (a - b) := by
  obtain ⟨m, e, hd, hv⟩ := HF_dec ha
  obtain ⟨k, f, hd', hv'⟩ := HF_dec hb
  have h := sub_right hd hd'
  rw [hv, hv', ← Int.sub_mul] at h
  by_cases hz : a - b = 0
  · rw [h.1 (by rw [hz, Int.zero_mul]), hz, HF_zero]
    congr 1
    by_cases h1 : a < 0 <;> by_cases h2 : b < 0 <;> simp [h1, h2]
    omega
  · have R := h.2 (fun c => hz (mulP_zero c))
    rw [mulP_neg, mulP_abs] at R
    exact HF_of_right hc R
theorem ofInt_HF {n : Int} (h : (2 * n).natAbs < 2 ^ 53) : Float64.ofInt n = HF (2 * n) := by
  refine HF_of_right h ?_
  have R := ofInt_right n
  have e1 : decide (2 * n < 0) = decide (n < 0) := decide_eq_decide.mpr (by omega)
  have e2 : (2 * n).natAbs * 2 ^ 1073 = n.natAbs * 2 ^ 1074 := by
    rw [show (2:Nat) ^ 1074 = 2 * 2 ^ 1073 from Nat.pow_succ', Int.natAbs_mul, Nat.mul_comm (Int.natAbs 2), Nat.mul_assoc]; rfl
  rw [e1, e2]; exact R

theorem compare_mul (p q K : Int) (hK : 0 < K) : compare (p * K) (q * K) = compare p q := by
  have h1 : p * K < q * K ↔ p < q := Int.mul_lt_mul_right hK
  have h2 : p * K = q * K ↔ p = q := ⟨fun h => Int.eq_of_mul_eq_mul_right (Int.ne_of_gt hK) h, fun h => by rw [h]⟩
  simp only [compare, compareOfLessAndEq, h1, h2]
theorem cmp_HF {a b : Int} (ha : a.natAbs < 2 ^ 53) (hb : b.natAbs < 2 ^ 53) : Float64.cmp (HF a) (HF b) = some (compare a b) := by
  obtain ⟨m, e, hd, hv⟩ := HF_dec ha
  obtain ⟨k, f, hd', hv'⟩ := HF_dec hb
  rw [cmp_right hd hd', hv, hv', compare_mul _ _ _ P_pos]
theorem cmpInt_HF {a n : Int} (ha : a.natAbs < 2 ^ 53) : Float64.cmpInt (HF a) n = some (compare a (2 * n)) := by
  obtain ⟨m, e, hd, hv⟩ := HF_dec ha
  have e2 : n * (2 : Int) ^ 1074 = 2 * n * 2 ^ 1073 := by
    rw [show (2:Int) ^ 1074 = 2 * 2 ^ 1073 from Int.pow_succ' 2 1073, ← Int.mul_assoc, Int.mul_comm n 2]
  rw [cmpInt_right hd, hv, e2, compare_mul _ _ _ P_pos]

/-- what trunc makes of a float that is not negative -/
theorem trunc_val {x : UInt64} {m : Nat} {e : Int} (hd : decode x = .fin false m e) {q : Nat} (h1 : q * 2 ^ 1074 ≤ m * 2 ^ (e + 1074).toNat) (h2 : m * 2 ^ (e + 1074).toNat < (q + 1) * 2 ^ 1074) :
    floorOf false m e = (q : Int) := by
  have he := decode_ge hd
  have hp : ∀ n : Nat, 0 < (2:Nat) ^ n := fun n => Nat.two_pow_pos n
  unfold floorOf
  split
  · rename_i h
    have e1 : (e + 1074).toNat = e.toNat + 1074 := by omega
    rw [e1, Nat.pow_add, ← Nat.mul_assoc] at h1 h2
    have a1 := Nat.le_of_mul_le_mul_right h1 (hp 1074)
    have a2 := Nat.lt_of_mul_lt_mul_right h2
    have a3 : m * 2 ^ e.toNat = q := by omega
    have a4 : sgn false m = (m : Int) := rfl
    rw [a4, ← a3]; simp
  · rename_i h
    have a4 : sgn false m = (m : Int) := rfl
    have a5 : (2 : Int) ^ (-e).toNat = ((2 ^ (-e).toNat : Nat) : Int) := by simp
    rw [a4, a5, ← Int.ofNat_fdiv]
    have e1 : (1074:Nat) = (-e).toNat + (e + 1074).toNat := by omega
    have s1 : (2:Nat) ^ 1074 = 2 ^ (-e).toNat * 2 ^ (e + 1074).toNat := by rw [← Nat.pow_add, ← e1]
    rw [s1, ← Nat.mul_assoc] at h1 h2
    have a1 := Nat.le_of_mul_le_mul_right h1 (hp _)
    have a2 := Nat.lt_of_mul_lt_mul_right h2
    have : m / 2 ^ (-e).toNat = q := by
      rw [Nat.div_eq_iff (hp _)]
      constructor
      · exact a1
      · have a6 : (q + 1) * 2 ^ (-e).toNat = q * 2 ^ (-e).toNat + 2 ^ (-e).toNat := by rw [Nat.add_mul, Nat.one_mul]
        have := hp (-e).toNat
        omega
    rw [this]
theorem truncOf_false (m : Nat) (e : Int) : truncOf false m e = floorOf false m e := rfl

theorem trunc_HF {n : Int} (h0 : 0 ≤ n) (hn : n < 2 ^ 52) : Flt.toInt truncOf (HF n) = n / 2 := by
  obtain ⟨m, e, hd, hv⟩ := HF_dec (k := n) (by omega)
  have hneg : decide (n < 0) = false := by simp; omega
  rw [hneg] at hd
  rw [Flt.toInt_fin hd, truncOf_false]
  have hv2 := val_natAbs hd
  rw [hv, mulP_abs] at hv2
  obtain ⟨N, rfl⟩ := Int.eq_ofNat_of_zero_le h0
  have e1 : (2:Nat) ^ 1074 = 2 * 2 ^ 1073 := Nat.pow_succ'
  simp only [Int.natAbs_natCast] at hv2
  have := trunc_val hd (q := N / 2) (by rw [← hv2, e1, ← Nat.mul_assoc]; exact Nat.mul_le_mul_right _ (by omega))
    (by rw [← hv2, e1, ← Nat.mul_assoc]; exact Nat.mul_lt_mul_of_pos_right (by omega) (Nat.two_pow_pos _))
  rw [this]; simp
theorem fin_HF {k : Int} (hk : k.natAbs < 2 ^ 53) : isFinite (HF k) = true := by
  obtain ⟨m, e, hd, _⟩ := HF_dec hk
  unfold isFinite; rw [hd]

/-- what is next to a quotient of whole numbers has its floor -/
theorem right_trunc {r : UInt64} {N D : Nat} (hNl : N < 2 ^ 31) (hD : 0 < D) (hDl : D < 2 ^ 20) (R : Right r false (N * 2 ^ 1073 * 2 ^ 1074) (D * 2 ^ 1073)) :
    ∃ m e, decode r = .fin false m e ∧ floorOf false m e = ((N / D : Nat) : Int) := by
  obtain ⟨t, hr, hle, hov, hnear⟩ := R
  have hq : N / D < 2 ^ 31 := Nat.lt_of_le_of_lt (Nat.div_le_self _ _) hNl
  have hdm := Nat.div_add_mod N D
  have hmod := Nat.mod_lt N hD
  have hlt : t < infMag := by
    have : ¬ t = infMag := fun c => small_over (W := N * 2 ^ 1073 * 2 ^ 1074) (D := D * 2 ^ 1073) (by
      have a1 : 2 * (N * 2 ^ 1073 * 2 ^ 1074) = (N * 2 * 2 ^ 1074) * 2 ^ 1073 := by ac_rfl
      have a2 : D * 2 ^ 1073 * 2 ^ 2045 = (D * 2 ^ 2045) * 2 ^ 1073 := by ac_rfl
      rw [a1, a2]
      refine Nat.mul_lt_mul_of_pos_right ?_ (Nat.two_pow_pos _)
      have b1 : N * 2 < 2 ^ 32 := by omega
      have b2 : N * 2 * 2 ^ 1074 < 2 ^ 32 * 2 ^ 1074 := Nat.mul_lt_mul_of_pos_right b1 (Nat.two_pow_pos _)
      have b3 : (2:Nat) ^ 32 * 2 ^ 1074 ≤ 2 ^ 2045 := by rw [← Nat.pow_add]; exact Nat.pow_le_pow_right (by decide) (by decide)
      have b4 : 1 * 2 ^ 2045 ≤ D * 2 ^ 2045 := Nat.mul_le_mul_right _ hD
      omega) (hov.mp c)
    omega
  have near := fun t' => (hnear hlt t').1
  -- the floor's own place, and a place just below the next whole number
  obtain ⟨u, _, hu⟩ := V_has (a := N / D) (c := 1074) (by omega) (by decide) (by decide)
  obtain ⟨v, _, hvv⟩ := V_has (a := (N / D + 1) * 2 ^ 21 - 1) (c := 1053) (by omega) (by decide) (by decide)
  have e2 : (2:Nat) ^ 1074 = 2 ^ 21 * 2 ^ 1053 := by rw [← Nat.pow_add]
  have lo : N / D * 2 ^ 1074 ≤ V t := by
    rcases Nat.lt_or_ge (V t) (N / D * 2 ^ 1074) with c | c
    · exfalso
      have h := near u
      rw [hu] at h
      have a1 : D * 2 ^ 1073 * (N / D * 2 ^ 1074) ≤ N * 2 ^ 1073 * 2 ^ 1074 := by
        have : D * 2 ^ 1073 * (N / D * 2 ^ 1074) = (D * (N / D)) * 2 ^ 1073 * 2 ^ 1074 := by ac_rfl
        rw [this]
        exact Nat.mul_le_mul_right _ (Nat.mul_le_mul_right _ (by omega))
      have a2 : D * 2 ^ 1073 * V t < D * 2 ^ 1073 * (N / D * 2 ^ 1074) := Nat.mul_lt_mul_of_pos_left c (Nat.mul_pos hD (Nat.two_pow_pos _))
      unfold dist at h
      omega
    · exact c
  have hi : V t < (N / D + 1) * 2 ^ 1074 := by
    rcases Nat.lt_or_ge (V t) ((N / D + 1) * 2 ^ 1074) with c | c
    · exact c
    · exfalso
      have h := near v
      rw [hvv] at h
      have c1 : D * 2 ^ 1073 * ((N / D + 1) * 2 ^ 1074) ≤ D * 2 ^ 1073 * V t := Nat.mul_le_mul_left _ c
      have c2 : D * 2 ^ 1073 * (((N / D + 1) * 2 ^ 21 - 1) * 2 ^ 1053) + D * 2 ^ 1053 * 2 ^ 1073 = D * 2 ^ 1073 * ((N / D + 1) * 2 ^ 1074) := by
        have g1 : ((N / D + 1) * 2 ^ 21 - 1) * 2 ^ 1053 + 2 ^ 1053 = (N / D + 1) * 2 ^ 1074 := by
          have z : (((N / D + 1) * 2 ^ 21 - 1) + 1) = (N / D + 1) * 2 ^ 21 := by omega
          have z2 : ((N / D + 1) * 2 ^ 21 - 1) * 2 ^ 1053 + 2 ^ 1053 = (((N / D + 1) * 2 ^ 21 - 1) + 1) * 2 ^ 1053 := (Nat.succ_mul _ _).symm
          rw [z2, z, e2, Nat.mul_assoc]
        have g2 : D * 2 ^ 1053 * 2 ^ 1073 = D * 2 ^ 1073 * 2 ^ 1053 := by ac_rfl
        rw [g2, ← Nat.mul_add, g1]
      have c3 : N * 2 ^ 1073 * 2 ^ 1074 + 2 ^ 1073 * 2 ^ 1074 ≤ D * 2 ^ 1073 * ((N / D + 1) * 2 ^ 1074) := by
        have g3 : D * 2 ^ 1073 * ((N / D + 1) * 2 ^ 1074) = (D * (N / D) + D) * 2 ^ 1073 * 2 ^ 1074 := by
          rw [show D * (N / D) + D = D * (N / D + 1) from (Nat.mul_succ _ _).symm]; ac_rfl
        have g4 : N * 2 ^ 1073 * 2 ^ 1074 + 2 ^ 1073 * 2 ^ 1074 = (N + 1) * 2 ^ 1073 * 2 ^ 1074 := by rw [Nat.succ_mul N, Nat.add_mul]
        rw [g3, g4]
        exact Nat.mul_le_mul_right _ (Nat.mul_le_mul_right _ (by omega))
      have c4 : D * 2 ^ 1053 * 2 ^ 1073 < 2 ^ 1073 * 2 ^ 1074 := by
        rw [Nat.mul_comm (2 ^ 1073) (2 ^ 1074)]
        refine Nat.mul_lt_mul_of_pos_right ?_ (Nat.two_pow_pos _)
        have g5 : D * 2 ^ 1053 < 2 ^ 20 * 2 ^ 1053 := Nat.mul_lt_mul_of_pos_right hDl (Nat.two_pow_pos _)
        have g6 : (2:Nat) ^ 20 * 2 ^ 1053 ≤ 2 ^ 1074 := by rw [← Nat.pow_add]; exact Nat.pow_le_pow_right (by decide) (by decide)
        omega
      unfold dist at h
      omega
  obtain ⟨m', e', hd', hv'⟩ := decode_pack false hlt
  rw [← hr] at hd'
  refine ⟨m', e', hd', ?_⟩
  exact trunc_val hd' (q := N / D) (by rw [hv']; exact lo) (by rw [hv']; exact hi)

/-- a quotient, truncated -/
theorem div_trunc {n d : Int} (h0 : 0 ≤ n) (hn : n < 2 ^ 31) (hd0 : 0 < d) (hd1 : d < 2 ^ 20) :
    ∃ m e, decode (Float64.div (HF n) (HF d)) = .fin false m e ∧ floorOf false m e = n / d := by
  obtain ⟨m, e, hx, hv⟩ := HF_dec (k := n) (by omega)
  obtain ⟨k, f, hy, hw⟩ := HF_dec (k := d) (by omega)
  have n1 : decide (n < 0) = false := by simp; omega
  have n2 : decide (d < 0) = false := by simp; omega
  rw [n1] at hx; rw [n2] at hy
  have hk : k ≠ 0 := by
    intro h
    have := val_natAbs hy
    rw [h, Nat.zero_mul, hw, mulP_abs] at this
    rcases Nat.mul_eq_zero.mp this with c | c
    · omega
    · exact absurd c (Nat.ne_of_gt (Nat.two_pow_pos _))
  have R := div_right hx hy hk
  rw [hv, hw, mulP_abs, mulP_abs] at R
  obtain ⟨N, rfl⟩ := Int.eq_ofNat_of_zero_le h0
  obtain ⟨D, rfl⟩ := Int.eq_ofNat_of_zero_le (Int.le_of_lt hd0)
  simp only [Int.natAbs_natCast] at R
  obtain ⟨m', e', hd', hf⟩ := right_trunc (by omega) (by omega) (by omega) R
  exact ⟨m', e', hd', by rw [hf]; simp⟩

theorem frac_trunc {n d : Int} (h0 : 0 ≤ n) (hn : n < 2 ^ 31) (hd0 : 0 < d) (hd1 : d < 2 ^ 20) :
    ∃ m e, decode (ofFrac (decide (n < 0) != decide (d < 0)) n.natAbs d.natAbs) = .fin false m e ∧ floorOf false m e = n / d := by
  have n1 : decide (n < 0) = false := by simp; omega
  have n2 : decide (d < 0) = false := by simp; omega
  rw [n1, n2]
  obtain ⟨N, rfl⟩ := Int.eq_ofNat_of_zero_le h0
  obtain ⟨D, rfl⟩ := Int.eq_ofNat_of_zero_le (Int.le_of_lt hd0)
  simp only [Int.natAbs_natCast]
  have R : Right (ofFrac false N D) false (N * 2 ^ 1073 * 2 ^ 1074) (D * 2 ^ 1073) := ofFrac_right (by omega) (by ac_rfl) (Nat.mul_pos (by omega) (Nat.two_pow_pos _))
  obtain ⟨m', e', hd', hf⟩ := right_trunc (by omega) (by omega) (by omega) R
  exact ⟨m', e', hd', by rw [hf]; simp⟩
theorem floor_frac {n d : Int} (h0 : 0 ≤ n) (hn : n < 2 ^ 31) (hd0 : 0 < d) (hd1 : d < 2 ^ 20) : Flt.toInt floorOf (ofFrac (decide (n < 0) != decide (d < 0)) n.natAbs d.natAbs) = n / d := by
  obtain ⟨m, e, hd, hf⟩ := frac_trunc h0 hn hd0 hd1
  rw [Flt.toInt_fin hd, hf]
theorem fin_frac {n d : Int} (h0 : 0 ≤ n) (hn : n < 2 ^ 31) (hd0 : 0 < d) (hd1 : d < 2 ^ 20) : isFinite (ofFrac (decide (n < 0) != decide (d < 0)) n.natAbs d.natAbs) = true := by
  obtain ⟨m, e, hd, hf⟩ := frac_trunc h0 hn hd0 hd1
  unfold isFinite; rw [hd]

theorem truncdiv_HF {n d : Int} (h0 : 0 ≤ n) (hn : n < 2 ^ 31) (hd0 : 0 < d) (hd1 : d < 2 ^ 20) : Flt.toInt truncOf (Float64.div (HF n) (HF d)) = n / d := by
  obtain ⟨m, e, hd, hf⟩ := div_trunc h0 hn hd0 hd1
  rw [Flt.toInt_fin hd, truncOf_false, hf]
theorem findiv_HF {n d : Int} (h0 : 0 ≤ n) (hn : n < 2 ^ 31) (hd0 : 0 < d) (hd1 : d < 2 ^ 20) : isFinite (Float64.div (HF n) (HF d)) = true := by
  obtain ⟨m, e, hd, hf⟩ := div_trunc h0 hn hd0 hd1
  unfold isFinite; rw [hd]

theorem isZero_HF {k : Int} (hk : k.natAbs < 2 ^ 53) : isZero (HF k) = decide (k = 0) := by
  obtain ⟨m, e, hd, hv⟩ := HF_dec hk
  have h := val_natAbs hd
  rw [hv, mulP_abs] at h
  unfold isZero
  rw [hd]
  cases m with
  | zero =>
    rw [Nat.zero_mul] at h
    rcases Nat.mul_eq_zero.mp h with c | c
    · have : k = 0 := by omega
      simp [this]
    · exact absurd c (Nat.ne_of_gt (Nat.two_pow_pos _))
  | succ m =>
    have : k ≠ 0 := by
      rintro rfl
      rw [show (0 : Int).natAbs = 0 from rfl, Nat.zero_mul] at h
      exact absurd h.symm (Nat.ne_of_gt (Nat.mul_pos (Nat.succ_pos m) (Nat.two_pow_pos _)))
    simp [this]

theorem fmod_HF {n d : Int} (h0 : 0 ≤ n) (hn : n < 2 ^ 52) (hd0 : 0 < d) (hd1 : d < 2 ^ 52) : Float64.fmod (HF n) (HF d) = HF (n % d) := by
  obtain ⟨m, e, hx, hv⟩ := HF_dec (k := n) (by omega)
  obtain ⟨k, f, hy, hw⟩ := HF_dec (k := d) (by omega)
  have n1 : decide (n < 0) = false := by simp; omega
  have n2 : decide (d < 0) = false := by simp; omega
  rw [n1] at hx; rw [n2] at hy
  have he := decode_ge hx
  have hf := decode_ge hy
  have ax := val_natAbs hx
  have ay := val_natAbs hy
  rw [hv, mulP_abs] at ax
  rw [hw, mulP_abs] at ay
  obtain ⟨N, rfl⟩ := Int.eq_ofNat_of_zero_le h0
  obtain ⟨D, rfl⟩ := Int.eq_ofNat_of_zero_le (Int.le_of_lt hd0)
  simp only [Int.natAbs_natCast] at ax ay
  have hk : k ≠ 0 := by
    rintro rfl
    rw [Nat.zero_mul] at ay
    rcases Nat.mul_eq_zero.mp ay with c | c
    · omega
    · exact absurd c (Nat.ne_of_gt (Nat.two_pow_pos _))
  have hfm : Float64.fmod (HF (N : Int)) (HF (D : Int)) = ofBin false ((m * 2 ^ (e - min e f).toNat) % (k * 2 ^ (f - min e f).toNat)) (min e f) := by
    unfold Float64.fmod
    rw [hx, hy]
    simp only
    rw [if_neg (by simpa using hk)]
    rfl
  rw [hfm]
  have R := ofBin_right (neg := false) (M := (m * 2 ^ (e - min e f).toNat) % (k * 2 ^ (f - min e f).toNat)) (g := min e f) (by omega)
  rw [← Nat.mul_mod_mul_right, Nat.mul_assoc, Nat.mul_assoc, ← Nat.pow_add, ← Nat.pow_add] at R
  have e1 : (e - min e f).toNat + (min e f + 1074).toNat = (e + 1074).toNat := by omega
  have e2 : (f - min e f).toNat + (min e f + 1074).toNat = (f + 1074).toNat := by omega
  rw [e1, e2, ← ax, ← ay, Nat.mul_mod_mul_right] at R
  have e3 : ((N : Int) % (D : Int)) = ((N % D : Nat) : Int) := by simp
  have hlt : N % D < D := Nat.mod_lt N (by omega)
  rw [e3]
  refine HF_of_right (by rw [Int.natAbs_natCast]; omega) ?_
  rw [Int.natAbs_natCast, show decide (((N % D : Nat) : Int) < 0) = false by simp; omega]
  exact R

theorem signBit_HF {k : Int} (h0 : 0 ≤ k) (hk : k < 2 ^ 52) : signBit (HF k) = false := by
  obtain ⟨t, hlt, ht⟩ := V_has (a := k.natAbs) (c := 1073) (by omega) (by decide) (by decide)
  have e := right_exact (by omega) (by decide) (HF_right k) ht
  rw [show decide (k < 0) = false by simp; omega] at e
  have hi : infMag = 2047 * 2 ^ 52 := rfl
  unfold signBit
  rw [e, pack_toNat false (t := t) (by omega)]
  have : ((if false then 2 ^ 63 else 0) + t) / 2 ^ 63 = 0 := by simp; omega
  rw [this]; rfl

theorem divmod_HF {n d : Int} (h0 : 0 ≤ n) (hn : n < 2 ^ 52) (hd0 : 0 < d) (hd1 : d < 2 ^ 52) : (Float64.divmod (HF n) (HF d)).2 = HF (n % d) := by
  have hm0 := Int.emod_nonneg n (show d ≠ 0 by omega)
  have hm1 := Int.emod_lt_of_pos n hd0
  have e0 : zero false = HF 0 := HF_zero.symm
  have ha : ∀ x : UInt64, (Float64.divmod (HF n) (HF d)).2 = (if isZero (fmod (HF n) (HF d)) then copysign (zero false) (HF d) else if lt (HF d) (zero false) != lt (fmod (HF n) (HF d)) (zero false) then add (fmod (HF n) (HF d)) (HF d) else fmod (HF n) (HF d)) := by
    intro _
    unfold Float64.divmod
    simp only
    split
    · rfl
    · split <;> rfl
  rw [ha 0, fmod_HF h0 hn hd0 hd1, isZero_HF (by omega)]
  by_cases hz : n % d = 0
  · rw [hz]
    simp only [decide_true, if_true]
    unfold copysign
    rw [signBit_HF (by omega) hd1]
    rw [HF_zero]
    have : isNaN (zero false) = false := by decide +kernel
    rw [this]
    have h2 : (zero false).toNat = 0 := by decide +kernel
    rw [h2]; rfl
  · have c1 : lt (HF d) (zero false) = false := by
      unfold lt
      rw [e0, cmp_HF (by omega) (by decide), Int.compare_eq_gt.mpr (by omega)]; rfl
    have c2 : lt (HF (n % d)) (zero false) = false := by
      unfold lt
      rw [e0, cmp_HF (by omega) (by decide), Int.compare_eq_gt.mpr (by omega)]; rfl
    rw [c1, c2]
    simp [hz]
end Mine

/-! Part 2: rules of the walk over such floats. -/
namespace Mine
open PySem PySem.W PySem.Spec PySem.Calls PyProof.Rows

section
variable {prog : Program} {w : World} {A : Around} {E : Value → Shared → Prop} {s : Shared} {x y : UInt64} {a b n : Int} {t u : Tok} {Q : Value → Shared → Prop}

/-- within 2^40 -/
abbrev Bd (a : Int) : Prop := -1099511627776 < a ∧ a < 1099511627776

theorem add_ff (hx : x = HF a) (hy : y = HF b) (h1 : Bd a) (h2 : Bd b) (h : Q (.float (HF (a + b)) s.toks) { s with toks := s.toks + 1 }) : wpAny (model prog w) A (binaryOp .Add (.float x t) (.float y u)) Q E s := by
  refine add_float ?_
  rw [hx, hy, add_HF (by omega) (by omega) (by omega)]; exact h
theorem sub_ff (hx : x = HF a) (hy : y = HF b) (h1 : Bd a) (h2 : Bd b) (h : Q (.float (HF (a - b)) s.toks) { s with toks := s.toks + 1 }) : wpAny (model prog w) A (binaryOp .Sub (.float x t) (.float y u)) Q E s := by
  refine sub_float ?_
  rw [hx, hy, sub_HF (by omega) (by omega) (by omega)]; exact h
theorem not_over {n : Int} (h : Bd n) : n.natAbs < 2 ^ 1024 - 2 ^ 970 := by
  have : (2:Nat) ^ 41 ≤ 2 ^ 1024 - 2 ^ 970 := by decide +kernel
  omega
theorem add_fi (hx : x = HF a) (h1 : Bd a) (h2 : Bd n) (h : Q (.float (HF (a + 2 * n)) s.toks) { s with toks := s.toks + 1 }) (hA : A.handled = none) : wpAny (model prog w) A (binaryOp .Add (.float x t) (.int n u)) Q E s := by
  refine add_fi_sharp hA (fun c => absurd c (by have := not_over h2; omega)) fun _ => ?_
  rw [hx, ofInt_HF (by omega), add_HF (by omega) (by omega) (by omega)]; exact h
theorem add_if (hx : x = HF a) (h1 : Bd a) (h2 : Bd n) (h : Q (.float (HF (2 * n + a)) s.toks) { s with toks := s.toks + 1 }) (hA : A.handled = none) : wpAny (model prog w) A (binaryOp .Add (.int n u) (.float x t)) Q E s := by
  refine add_if_sharp hA (fun c => absurd c (by have := not_over h2; omega)) fun _ => ?_
  rw [hx, ofInt_HF (by omega), add_HF (by omega) (by omega) (by omega)]; exact h
theorem sub_fi (hx : x = HF a) (h1 : Bd a) (h2 : Bd n) (h : Q (.float (HF (a - 2 * n)) s.toks) { s with toks := s.toks + 1 }) (hA : A.handled = none) : wpAny (model prog w) A (binaryOp .Sub (.float x t) (.int n u)) Q E s := by
  refine sub_fi_sharp hA (fun c => absurd c (by have := not_over h2; omega)) fun _ => ?_
  rw [hx, ofInt_HF (by omega), sub_HF (by omega) (by omega) (by omega)]; exact h
theorem bd_over {n : Int} (h : Bd n) : ¬ Flt.Over n := by have := not_over h; unfold Flt.Over; omega
theorem mod_fi (hx : x = HF a) (h0 : 0 ≤ a) (h1 : a < 1099511627776) (h2 : 0 < n) (h3 : n < 1099511627776) (h : Q (.float (HF (a % (2 * n))) s.toks) { s with toks := s.toks + 1 }) (hA : A.handled = none) : wpAny (model prog w) A (binaryOp .Mod (.float x t) (.int n u)) Q E s := by
  refine Flt.mod_fi hA (fun c => absurd c (bd_over ⟨by omega, h3⟩)) (fun c => absurd c (by omega)) fun _ _ => ?_
  rw [hx, ofInt_HF (by omega), divmod_HF h0 (by omega) (by omega) (by omega)]; exact h
/-- the quotient of two floats, kept as it is -/
def QF (a b : Int) : UInt64 := Float64.div (HF a) (HF b)
theorem div_fi (hx : x = HF a) (h2 : 0 < n) (h3 : n < 1099511627776) (h : Q (.float (QF a (2 * n)) s.toks) { s with toks := s.toks + 1 }) (hA : A.handled = none) : wpAny (model prog w) A (binaryOp .Div (.float x t) (.int n u)) Q E s := by
  refine Flt.truediv_fi hA (fun c => absurd c (bd_over ⟨by omega, h3⟩)) (fun c => absurd c (by omega)) fun _ _ => ?_
  rw [hx, ofInt_HF (by omega)]; exact h

theorem fin_not_nan {x : UInt64} (h : Float64.isFinite x = true) : ¬ Float64.isNaN x = true := by
  unfold Float64.isFinite at h; unfold Float64.isNaN
  cases hd : Float64.decode x <;> simp_all
theorem fin_not_inf {x : UInt64} (h : Float64.isFinite x = true) : ¬ Float64.isInf x = true := by
  unfold Float64.isFinite at h; unfold Float64.isInf
  cases hd : Float64.decode x <;> simp_all
theorem trunc_h (hx : x = HF a) (h0 : 0 ≤ a) (h1 : a < 1099511627776) (h : Q (.int (a / 2) s.toks) { s with toks := s.toks + 1 }) (hA : A.handled = none) : wpAny (model prog w) A (call (.builtin "math.trunc") [.float x t]) Q E s := by
  have hf := fin_HF (k := a) (by omega)
  subst hx
  refine Flt.call_trunc_float hA (fun c => absurd c (fin_not_nan hf)) (fun c => absurd c (fin_not_inf hf)) fun _ => ?_
  rw [trunc_HF h0 (by omega)]; exact h
theorem int_h (hx : x = HF a) (h0 : 0 ≤ a) (h1 : a < 1099511627776) (h : Q (.int (a / 2) s.toks) { s with toks := s.toks + 1 }) (hA : A.handled = none) : wpAny (model prog w) A (call (.type "int") [.float x t]) Q E s := by
  have hf := fin_HF (k := a) (by omega)
  subst hx
  refine Flt.call_int_float3 hA (fun c => absurd c (fin_not_nan hf)) (fun c => absurd c (fin_not_inf hf)) fun _ => ?_
  rw [trunc_HF h0 (by omega)]; exact h
theorem trunc_q (hx : x = QF a b) (h0 : 0 ≤ a) (h1 : a < 2147483648) (h2 : 0 < b) (h3 : b < 1048576) (h : Q (.int (a / b) s.toks) { s with toks := s.toks + 1 }) (hA : A.handled = none) : wpAny (model prog w) A (call (.builtin "math.trunc") [.float x t]) Q E s := by
  have hf : Float64.isFinite (QF a b) = true := findiv_HF h0 h1 h2 h3
  subst hx
  refine Flt.call_trunc_float hA (fun c => absurd c (fin_not_nan hf)) (fun c => absurd c (fin_not_inf hf)) fun _ => ?_
  rw [show Flt.toInt Float64.truncOf (QF a b) = a / b from truncdiv_HF h0 h1 h2 h3]; exact h
def RF (a b : Int) : UInt64 := Float64.ofFrac (decide (a < 0) != decide (b < 0)) a.natAbs b.natAbs
theorem div_ii' (h0 : 0 ≤ a) (h1 : a < 2147483648) (h2 : 0 < b) (h : Q (.float (RF a b) s.toks) { s with toks := s.toks + 1 }) (hA : A.handled = none) : wpAny (model prog w) A (binaryOp .Div (.int a t) (.int b u)) Q E s := by
  refine Flt.div_ii_fits hA ?_ (fun c => absurd c (by omega)) fun _ _ => h
  have : (2:Nat) ^ 32 ≤ 2 ^ 1023 := by decide +kernel
  omega
theorem floor_r (hx : x = RF a b) (h0 : 0 ≤ a) (h1 : a < 2147483648) (h2 : 0 < b) (h3 : b < 1048576) (h : Q (.int (a / b) s.toks) { s with toks := s.toks + 1 }) (hA : A.handled = none) : wpAny (model prog w) A (call (.builtin "math.floor") [.float x t]) Q E s := by
  have hf : Float64.isFinite (RF a b) = true := fin_frac h0 h1 h2 h3
  subst hx
  refine Flt.call_floor_float hA (fun c => absurd c (fin_not_nan hf)) (fun c => absurd c (fin_not_inf hf)) fun _ => ?_
  rw [show Flt.toInt Float64.floorOf (RF a b) = a / b from floor_frac h0 h1 h2 h3]; exact h

theorem floor_lit (h : Q (.int 1 s.toks) { s with toks := s.toks + 1 }) (hA : A.handled = none) : wpAny (model prog w) A (call (.builtin "math.floor") [.float (Float64.add (Float64.add (RF (367 * 1 - 362) 12) (Float64.ofInt 0)) (Float64.ofInt 1)) t]) Q E s := by
  have hf : Float64.isFinite (Float64.add (Float64.add (RF (367 * 1 - 362) 12) (Float64.ofInt 0)) (Float64.ofInt 1)) = true := by decide +kernel
  refine Flt.call_floor_float hA (fun c => absurd c (fin_not_nan hf)) (fun c => absurd c (fin_not_inf hf)) fun _ => ?_
  rw [show Flt.toInt Float64.floorOf (Float64.add (Float64.add (RF (367 * 1 - 362) 12) (Float64.ofInt 0)) (Float64.ofInt 1)) = 1 from by decide +kernel]; exact h

theorem lt_h (hx : x = HF a) (h1 : Bd a) (h : Q (.bool (decide (a < 2 * n))) s) : wpAny (model prog w) A (compareOp .Lt (.float x t) (.int n u)) Q E s := by
  refine lt_fi ?_
  rw [hx, cmpInt_HF (by omega)]
  have : (some (compare a (2 * n)) == some Ordering.lt) = decide (a < 2 * n) := by
    rcases Int.lt_trichotomy a (2 * n) with c | c | c
    · rw [Int.compare_eq_lt.mpr c]; simp [c]
    · rw [Int.compare_eq_eq.mpr c]; simp [c]
    · rw [Int.compare_eq_gt.mpr c]; simp; omega
  rw [this]; exact h
theorem lt_h' (hx : x = HF a) (h1 : Bd a) (h : Q (.bool (decide (2 * n < a))) s) : wpAny (model prog w) A (compareOp .Lt (.int n u) (.float x t)) Q E s := by
  refine lt_if ?_
  rw [hx, cmpInt_HF (by omega)]
  have : (some (compare a (2 * n)) == some Ordering.gt) = decide (2 * n < a) := by
    rcases Int.lt_trichotomy a (2 * n) with c | c | c
    · rw [Int.compare_eq_lt.mpr c]; simp; omega
    · rw [Int.compare_eq_eq.mpr c]; simp [c]
    · rw [Int.compare_eq_gt.mpr c]; simp [c]
  rw [this]; exact h
theorem lt_hh (hx : x = HF a) (hy : y = HF b) (h1 : Bd a) (h2 : Bd b) (h : Q (.bool (decide (a < b))) s) : wpAny (model prog w) A (compareOp .Lt (.float x t) (.float y u)) Q E s := by
  refine AutoFloatOps.lt_0 ?_
  rw [hx, hy, cmp_HF (by omega) (by omega)]
  have : (some (compare a b) == some Ordering.lt) = decide (a < b) := by
    rcases Int.lt_trichotomy a b with c | c | c
    · rw [Int.compare_eq_lt.mpr c]; simp [c]
    · rw [Int.compare_eq_eq.mpr c]; simp [c]
    · rw [Int.compare_eq_gt.mpr c]; simp; omega
  rw [this]; exact h
theorem ne_hh (hx : x = HF a) (hy : y = HF b) (h1 : Bd a) (h2 : Bd b) (h : Q (.bool (decide (a ≠ b))) s) : wpAny (model prog w) A (compareOp .NotEq (.float x t) (.float y u)) Q E s := by
  refine AutoFloatOps.ne_0 ?_
  rw [hx, hy, cmp_HF (by omega) (by omega)]
  have : (some (compare a b) != some Ordering.eq) = decide (a ≠ b) := by
    rcases Int.lt_trichotomy a b with c | c | c
    · have hne : a ≠ b := by omega
      rw [Int.compare_eq_lt.mpr c]; simp [hne]
    · rw [Int.compare_eq_eq.mpr c]; simp [c]
    · have hne : a ≠ b := by omega
      rw [Int.compare_eq_gt.mpr c]; simp [hne]
  rw [this]; exact h
theorem pow6 (h : Q (.int 1000000 s.toks) { s with toks := s.toks + 1 }) : wpAny (model prog w) A (binaryOp .Pow (.int 10 t) (.int 6 u)) Q E s := pow_int_small (by decide) (by decide) (by decide) h
theorem pow4 (h : Q (.int 10000 s.toks) { s with toks := s.toks + 1 }) : wpAny (model prog w) A (binaryOp .Pow (.int 10 t) (.int 4 u)) Q E s := pow_int_small (by decide) (by decide) (by decide) h
theorem mod_pp (h2 : 0 < n) (h : Q (.int (a % n) s.toks) { s with toks := s.toks + 1 }) : wpAny (model prog w) A (binaryOp .Mod (.int a t) (.int n u)) Q E s := by
  refine mod_int (by omega) ?_
  rw [Int.fmod_eq_emod_of_nonneg _ (by omega)]; exact h
theorem div_pp (h1 : Bd a) (h2 : 0 < n) (h3 : n < 1048576) (h : Q (.int (a / n) s.toks) { s with toks := s.toks + 1 }) : wpAny (model prog w) A (binaryOp .FloorDiv (.int a t) (.int n u)) Q E s := by
  refine floordiv_int (by omega) ?_ (.inl (PyProof.noPylong_small (by omega)))
  rw [Int.fdiv_eq_ediv_of_nonneg _ (by omega)]; exact h
end
end Mine

/-! Part 3: the head (the top's run), stated once. -/
namespace Mine
open PySem PySem.W PyProof.Rows
set_option maxHeartbeats 8000000 in
open_top hd for PySem.Challenge.rw_ba5011_01
end Mine

/-! Part 4: contracts: what they say, how they are used; the months' names. -/
namespace Mine
open PySem PySem.W PySem.Spec PySem.Calls PyProof.Rows

theorem lit_mayan : (4693266160550936576 : UInt64) = HF 1168565 := by decide +kernel
theorem lit_arm : (4701007892789067776 : UInt64) = HF 3845003 := by decide +kernel
theorem lit_greg : (4700144277945057280 : UInt64) = HF 3442851 := by decide +kernel
theorem lit_half : (0x3fe0000000000000 : UInt64) = HF 1 := by decide +kernel


abbrev RetK := Heap → Addr → (Str → Option Value) → List (Addr × Obj) → Shared → (Value → Shared → Prop) → Prop
abbrev tupO (vs : Array Value) (c : Nat) : Obj := { cls := .type "tuple", data := .seq vs c }
/-- a value comes back, nothing is made that counts -/
def RetV (R : Tok → Value) : RetK := fun h₀ L m news s Q => ∀ (t : Tok) (h' : Heap) (tk' : Nat), Fr h₀ L h' m → News h₀ L h' news → Q (R t) { s with heap := h', toks := tk' }
def RetT2 (r1 r2 : Tok → Value) : RetK := fun h₀ L m news s Q => ∀ (D : Addr) (t1 t2 : Tok) (c : Nat) (h' : Heap) (tk' : Nat), Fr h₀ L h' m →
  News h₀ L h' ((D, ({ cls := .type "tuple", data := .seq #[r1 t1, r2 t2] c } : Obj)) :: news) → (∀ p ∈ news, p.1 < D) → Q (.ref D) { s with heap := h', toks := tk' }
def RetT3 (r1 r2 r3 : Tok → Value) : RetK := fun h₀ L m news s Q => ∀ (D : Addr) (t1 t2 t3 : Tok) (c : Nat) (h' : Heap) (tk' : Nat), Fr h₀ L h' m →
  News h₀ L h' ((D, ({ cls := .type "tuple", data := .seq #[r1 t1, r2 t2, r3 t3] c } : Obj)) :: news) → (∀ p ∈ news, p.1 < D) → Q (.ref D) { s with heap := h', toks := tk' }
def RetT5 (r1 r2 r3 r4 r5 : Tok → Value) : RetK := fun h₀ L m news s Q => ∀ (D : Addr) (t1 t2 t3 t4 t5 : Tok) (c : Nat) (h' : Heap) (tk' : Nat), Fr h₀ L h' m →
  News h₀ L h' ((D, ({ cls := .type "tuple", data := .seq #[r1 t1, r2 t2, r3 t3, r4 t4, r5 t5] c } : Obj)) :: news) → (∀ p ∈ news, p.1 < D) → Q (.ref D) { s with heap := h', toks := tk' }

section
variable {h₀ h' : Heap} {L D : Addr} {m : Str → Option Value} {news : List (Addr × Obj)} {s : Shared} {Q : Value → Shared → Prop} {r1 r2 r3 r4 r5 : Tok → Value} {v1 v2 v3 v4 v5 : Value} {c tk' : Nat}
theorem retV_of (H : RetV r1 h₀ L m news s Q) (F : Fr h₀ L h' m) (N : News h₀ L h' news) (e1 : ∃ t, v1 = r1 t) : Q v1 { s with heap := h', toks := tk' } := by
  obtain ⟨t, rfl⟩ := e1
  exact H t h' tk' F N
theorem retT2_of (H : RetT2 r1 r2 h₀ L m news s Q) (F : Fr h₀ L h' m) (N : News h₀ L h' ((D, ({ cls := .type "tuple", data := .seq #[v1, v2] c } : Obj)) :: news)) (l : ∀ p ∈ news, p.1 < D)
    (e1 : ∃ t, v1 = r1 t) (e2 : ∃ t, v2 = r2 t) : Q (.ref D) { s with heap := h', toks := tk' } := by
  obtain ⟨t1, rfl⟩ := e1; obtain ⟨t2, rfl⟩ := e2
  exact H D t1 t2 c h' tk' F N l
theorem retT3_of (H : RetT3 r1 r2 r3 h₀ L m news s Q) (F : Fr h₀ L h' m) (N : News h₀ L h' ((D, ({ cls := .type "tuple", data := .seq #[v1, v2, v3] c } : Obj)) :: news)) (l : ∀ p ∈ news, p.1 < D)
    (e1 : ∃ t, v1 = r1 t) (e2 : ∃ t, v2 = r2 t) (e3 : ∃ t, v3 = r3 t) : Q (.ref D) { s with heap := h', toks := tk' } := by
  obtain ⟨t1, rfl⟩ := e1; obtain ⟨t2, rfl⟩ := e2; obtain ⟨t3, rfl⟩ := e3
  exact H D t1 t2 t3 c h' tk' F N l
theorem retT5_of (H : RetT5 r1 r2 r3 r4 r5 h₀ L m news s Q) (F : Fr h₀ L h' m) (N : News h₀ L h' ((D, ({ cls := .type "tuple", data := .seq #[v1, v2, v3, v4, v5] c } : Obj)) :: news)) (l : ∀ p ∈ news, p.1 < D)
    (e1 : ∃ t, v1 = r1 t) (e2 : ∃ t, v2 = r2 t) (e3 : ∃ t, v3 = r3 t) (e4 : ∃ t, v4 = r4 t) (e5 : ∃ t, v5 = r5 t) : Q (.ref D) { s with heap := h', toks := tk' } := by
  obtain ⟨t1, rfl⟩ := e1; obtain ⟨t2, rfl⟩ := e2; obtain ⟨t3, rfl⟩ := e3; obtain ⟨t4, rfl⟩ := e4; obtain ⟨t5, rfl⟩ := e5
  exact H D t1 t2 t3 t4 t5 c h' tk' F N l
end

def CL (w : World) (loose : List Str) (mean : ExcName → Option Value) (mg mb : Str → Option Value) (f : Addr) (vs : List Value) (dN : Nat) (Ret : RetK) : Prop :=
  ∀ (dp un : Nat) (gd : Option (List Code)) (cn : Str) (cs : Scope) (a : Addr) (ccd : Value) (cl : List (Str × Addr)) (outer : List Env) (A₀ : Around) (base h₀ : Heap) (L : Addr) (m : Str → Option Value) (news : List (Addr × Obj)) (s : Shared) (Q E : Value → Shared → Prop),
    Below A₀ base outer h₀ → Fr h₀ L s.heap m → (hd.heap_39 w.params).In h₀ → News h₀ L s.heap news → Top hd.view_39 loose mean mg mb h₀ → cs.kind = .function → dp + dN < recursionLimit → un + 8 * dN < cLine → Ret h₀ L m news s Q →
    wpAny (model PySem.Challenge.rw_ba5011_01.row.prog w) (ktrTop dp un gd cn cs L a ccd cl outer) (call (.ref f) vs) Q E s

theorem CL.use {w : World} {loose : List Str} {mean : ExcName → Option Value} {mg mb : Str → Option Value} {f : Addr} {vs : List Value} {dN : Nat} {Ret : RetK} (C : CL w loose mean mg mb f vs dN Ret)
    {dp un : Nat} {gd : Option (List Code)} {cn : Str} {cs : Scope} {a : Addr} {ccd : Value} {cl : List (Str × Addr)} {outer : List Env} {A₀ : Around} {base h₀ : Heap} {L : Addr} {m : Str → Option Value} {news : List (Addr × Obj)} {s : Shared} {Q E : Value → Shared → Prop}
    (B : Below A₀ base outer h₀) (F : Fr h₀ L s.heap m) (X : (hd.heap_39 w.params).In h₀) (N : News h₀ L s.heap news) (T : Top hd.view_39 loose mean mg mb h₀) (hk : cs.kind = .function) (hd : dp + dN < recursionLimit) (hu : un + 8 * dN < cLine) (hr : Ret h₀ L m news s Q) :
    wpAny (model PySem.Challenge.rw_ba5011_01.row.prog w) (ktrTop dp un gd cn cs L a ccd cl outer) (call (.ref f) vs) Q E s := C _ _ _ _ _ _ _ _ _ _ _ _ _ _ _ _ _ _ B F X N T hk hd hu hr

/-- the names of the months -/
abbrev HB (k : Int) : Str := List.getD [Str.ofString "Pop", Str.ofString "Wo'", Str.ofString "Zip", Str.ofString "Sotz'", Str.ofString "Sek", Str.ofString "Xul", Str.ofString "Yaxk'in'", Str.ofString "Mol", Str.ofString "Ch'en", Str.ofString "Yax", Str.ofString "Sak'", Str.ofString "Keh", Str.ofString "Mak", Str.ofString "K'ank'in", Str.ofString "Muwan'", Str.ofString "Pax", Str.ofString "K'ayab", Str.ofString "Kumk'u", Str.ofString "Wayeb'"] k.toNat Str.empty
abbrev HBL : List Str := [Str.ofString "Pop", Str.ofString "Wo'", Str.ofString "Zip", Str.ofString "Sotz'", Str.ofString "Sek", Str.ofString "Xul", Str.ofString "Yaxk'in'", Str.ofString "Mol", Str.ofString "Ch'en", Str.ofString "Yax", Str.ofString "Sak'", Str.ofString "Keh", Str.ofString "Mak", Str.ofString "K'ank'in", Str.ofString "Muwan'", Str.ofString "Pax", Str.ofString "K'ayab", Str.ofString "Kumk'u", Str.ofString "Wayeb'"]
theorem HBn : ∀ i : Nat, i < 19 → ∀ j : Nat, j < 19 → (HBL.getD i Str.empty == HBL.getD j Str.empty) = (i == j) := by decide +kernel
theorem HB_beq {i j : Int} (h0 : 0 ≤ i) (h1 : i < 19) (h2 : 0 ≤ j) (h3 : j < 19) : (HB i == HB j) = decide (i = j) := by
  have h := HBn i.toNat (by omega) j.toNat (by omega)
  rw [show HB i = HBL.getD i.toNat Str.empty from rfl, show HB j = HBL.getD j.toNat Str.empty from rfl, h]
  by_cases c : i = j
  · subst c; simp
  · have : i.toNat ≠ j.toNat := by omega
    simp [c, this]
theorem lit_way : Str.ofString "Wayeb'" = HB 18 := rfl
theorem lit_xul : Str.ofString "Xul" = HB 5 := rfl
theorem lit_way' : ("Wayeb'" : Str) = HB 18 := rfl
theorem lit_xul' : ("Xul" : Str) = HB 5 := rfl

section
variable {prog : Program} {w : World} {A : Around} {E : Value → Shared → Prop} {s : Shared} {x y : Str} {i j : Int} {t u : Tok} {Q : Value → Shared → Prop}
theorem eq_names (hx : x = HB i) (hy : y = HB j) (h0 : 0 ≤ i ∧ i < 19) (h1 : 0 ≤ j ∧ j < 19) (h : Q (.bool (decide (i = j))) s) : wpAny (model prog w) A (compareOp .Eq (.str x t) (.str y u)) Q E s := by
  subst hx; subst hy
  refine PyProof.Rows.eq_str ?_
  rw [HB_beq h0.1 h0.2 h1.1 h1.2]; exact h
theorem ne_names (hx : x = HB i) (hy : y = HB j) (h0 : 0 ≤ i ∧ i < 19) (h1 : 0 ≤ j ∧ j < 19) (h : Q (.bool (!decide (i = j))) s) : wpAny (model prog w) A (compareOp .NotEq (.str x t) (.str y u)) Q E s := by
  subst hx; subst hy
  refine PySem.P.ne_str ?_
  have e : ((HB i).cps.toList != (HB j).cps.toList) = !decide (i = j) := by
    rw [bne, PySem.SeqAt.str_beq, HB_beq h0.1 h0.2 h1.1 h1.2]
  rw [e]; exact h
theorem index_names {l : Addr} {vs : List Value} (hl : s.heap.IsList l vs.toArray) (hw : StrsAre vs HBL) (hx : x = HB i) (h0 : 0 ≤ i ∧ i < 19) (h : Q (.int i s.toks) { s with toks := s.toks + 1 }) :
    wpAny (model prog w) A (call (.builtin "list.index") [.ref l, .str x t]) Q E s := by
  subst hx
  obtain ⟨⟨cls, dd, data, sl⟩, ho, hc, n, hd⟩ := id hl
  simp only at hc hd
  subst hc hd
  have hlen : vs.length = 19 := hw.length
  obtain ⟨k, rfl⟩ := Int.eq_ofNat_of_zero_le h0.1
  have hk : k < 19 := by omega
  have at_ : ∀ j : Nat, (hj : j < vs.length) → isStrOf (HB (k : Int)) vs[j] = decide (j = k) := by
    intro j hj
    have hj' : j < 19 := by omega
    have e0 : HBL[j]? = some (HBL.getD j Str.empty) := by
      rw [List.getD_eq_getElem?_getD, List.getElem?_eq_getElem (show j < HBL.length from hj')]; rfl
    obtain ⟨t', e⟩ := hw.get j _ e0
    rw [List.getElem?_eq_getElem hj] at e
    rw [Option.some.inj e]
    show (HBL.getD j Str.empty == HBL.getD k Str.empty) = _
    rw [HBn j hj' k hk]; by_cases c : j = k <;> simp [c]
  refine call_meets PySem.F.slot_list_index ⟨_, ho, rfl⟩ PySem.F.entry_list_index (PySem.F.args_list_index_2 _ _)
    (PySem.SeqAt.list_indexAt l vs.toArray n dd sl (.str (HB (k : Int)) t) (isStrOf (HB (k : Int))) k (by simpa [hlen] using hk) (by omega) ?_ ?_) ⟨ho, fun y hy => (eq_isStrOf _ t hw y (by simpa using hy)).at _ _, h⟩
  · have := at_ k (by omega)
    simpa using this
  · intro j hjs hlt
    have := at_ j (by simpa using hjs)
    simp only [List.getElem_toArray]
    rw [this]; simp; omega
theorem method_K {K : Frag} {h₀ : Heap} {L a : Addr} {m : Str → Option Value} {n : Nat} {its : Array Value} {sl : Array (Option Value)} {name : Str} {id : String} {pl : Sem Bool} {Q : Value × List Value → Shared → Prop} (F : Fr h₀ L s.heap m) (X : K.In h₀) (hl : K.lookup a = some ⟨.type "list", none, .seq its n, sl⟩)
    (slot : Slot "list" name id) (hty : typeOf (.builtin id) = pure (.type "method_descriptor")) (h : Q (.builtin id, [.ref a]) s) : wpAny (model prog w) A (getMethod (.ref a) name pl) Q E s :=
  getMethod_builtin ⟨_, (X.keeps F.keep) _ _ hl, rfl⟩ PySem.F.plainAttrs_list slot hty (fun b e => by cases e; exact ⟨_, (X.keeps F.keep) _ _ hl, rfl⟩) h
theorem in_tup_ints {l : Addr} {vs : List Value} {ns : List Int} {k : Int} (hl : IsTup s.heap l vs.toArray) (hi : IntsAre vs ns) (h : Q (.bool (ns.any (· == k))) s) :
    wpAny (model prog w) A (compareOp .In (.int k t) (.ref l)) Q E s :=
  PySem.SeqAt.in_tupleAt (isInt k) hl (fun y hy => (eq_isInt k t hi y (by simpa using hy)).at _ _) (by rw [← Array.any_toList, show vs.toArray.toList = vs from rfl, any_isInt k hi]; exact h)

variable {h₀ : Heap} {L a b : Addr} {news : List (Addr × Obj)}
theorem shaped_HBn : ∀ i : Nat, i < 19 → ((PyData.str (HBL.getD i Str.empty)).canLay0 = true ∧ (HBL.getD i Str.empty).length ≤ 100) := by decide +kernel
theorem shaped_of {x : Int} {y : Str} (h : PyData.strOk y = true) : SeqAt.shaped (.tuple [.int x, .str y]) = true := by
  simp [SeqAt.shaped, PyData.canLay0, PyData.canLayAll0, PyData.depth, PyData.depthAll, h]
theorem shaped_HB (x i : Int) (h : 0 ≤ i ∧ i < 19) : SeqAt.shaped (.tuple [.int x, .str (HB i)]) = true := shaped_of (by
  have := (shaped_HBn i.toNat (by omega)).1
  exact this)
theorem ne_t2 {x1 x2 i j : Int} {y1 y2 : Str} {t1 t2 u1 u2 : Tok} {c1 c2 : Nat} (N : News h₀ L s.heap news) (ha : (a, ({ cls := .type "tuple", data := .seq #[.int x1 t1, .str y1 u1] c1 } : Obj)) ∈ news) (hb : (b, ({ cls := .type "tuple", data := .seq #[.int x2 t2, .str y2 u2] c2 } : Obj)) ∈ news)
    (hu : A.units + 64 < cLine) (ex : x1 = x2) (ey1 : y1 = HB i) (ey2 : y2 = HB j) (ei : i = j) (hi : 0 ≤ i ∧ i < 19) (h : Q (.bool false) s) : wpAny (model prog w) A (compareOp .NotEq (.ref a) (.ref b)) Q E s := by
  subst ex; subst ei; subst ey1; subst ey2
  have hs := shaped_HB x1 i hi
  refine ne_dataH (da := .tuple [.int x1, .str (HB i)]) (db := .tuple [.int x1, .str (HB i)]) (reads_tuple_at (News.get N ha) rfl rfl (.cons (.int _ _) (.cons (.str _ _) .nil))) (reads_tuple_at (News.get N hb) rfl rfl (.cons (.int _ _) (.cons (.str _ _) .nil))) hs hs hu ?_
  have : PyData.eqv (.tuple [.int x1, .str (HB i)]) (.tuple [.int x1, .str (HB i)]) = true := by simp [PyData.eqv, PyData.eqvAll]
  rw [this]; exact h
theorem ne_t3 {x1 x2 y1 y2 z1 z2 : Int} {t1 t2 u1 u2 v1 v2 : Tok} {c1 c2 : Nat} (N : News h₀ L s.heap news) (ha : (a, ({ cls := .type "tuple", data := .seq #[.int x1 t1, .int y1 u1, .int z1 v1] c1 } : Obj)) ∈ news) (hb : (b, ({ cls := .type "tuple", data := .seq #[.int x2 t2, .int y2 u2, .int z2 v2] c2 } : Obj)) ∈ news)
    (hu : A.units + 64 < cLine) (ex : x1 = x2) (ey : y1 = y2) (ez : z1 = z2) (h : Q (.bool false) s) : wpAny (model prog w) A (compareOp .NotEq (.ref a) (.ref b)) Q E s := by
  subst ex; subst ey; subst ez
  have hs : SeqAt.shaped (.tuple [.int x1, .int y1, .int z1]) = true := rfl
  refine ne_dataH (da := .tuple [.int x1, .int y1, .int z1]) (db := .tuple [.int x1, .int y1, .int z1]) (reads_tuple_at (News.get N ha) rfl rfl (.cons (.int _ _) (.cons (.int _ _) (.cons (.int _ _) .nil)))) (reads_tuple_at (News.get N hb) rfl rfl (.cons (.int _ _) (.cons (.int _ _) (.cons (.int _ _) .nil)))) hs hs hu ?_
  have : PyData.eqv (.tuple [.int x1, .int y1, .int z1]) (.tuple [.int x1, .int y1, .int z1]) = true := by simp [PyData.eqv, PyData.eqvAll]
  rw [this]; exact h
end
end Mine

/-! Part 5: the loop over the months' names by one turn. -/
namespace Mine
open PySem PySem.W PySem.Spec PySem.Calls PyProof.Rows

theorem ahead_mod (M c : Int) (h : 0 ≤ c ∧ c < 365) : (M + (c - M % 365) % 365) % 365 = c := by
  have g : ∀ x : Int, (M + x % 365) % 365 = (M + x) % 365 := fun x => by omega
  rw [g]; omega
theorem ahead_law (K i : Int) (h : 0 ≤ i ∧ i < 19) : ((K + 2 * ((20 * i + 1 - (K / 2 - 583934) % 365) % 365)) / 2 - 583934) % 365 = 20 * i + 1 := by
  have e : (K + 2 * ((20 * i + 1 - (K / 2 - 583934) % 365) % 365)) / 2 - 583934 = (K / 2 - 583934) + (20 * i + 1 - (K / 2 - 583934) % 365) % 365 := by omega
  rw [e]
  exact ahead_mod _ _ (by omega)
theorem ahead_a (K i : Int) (h : 0 ≤ i ∧ i < 19) : ((K + 2 * ((20 * i + 1 - (K / 2 - 583934) % 365) % 365)) / 2 - 583934) % 365 % 20 = 1 := by
  rw [ahead_law K i h]; omega
theorem ahead_b (K i : Int) (h : 0 ≤ i ∧ i < 19) : ((K + 2 * ((20 * i + 1 - (K / 2 - 583934) % 365) % 365)) / 2 - 583934) % 365 / 20 = i := by
  rw [ahead_law K i h]; omega
/-- a turn's end: the names x and y may be turned, the ledger still bears the iterator and what stood in it -/
def NmEnd (h₀ : Heap) (L : Addr) (s₁ : Shared) (keep : List (Addr × Obj)) (x y : Str) (m₀ : Str → Option Value) (s₂ : Shared) : Prop :=
  ∃ h' tk m' all, s₂ = { s₁ with heap := h', toks := tk } ∧ Fr h₀ L h' m' ∧ News h₀ L h' all ∧ (∀ p ∈ keep, p ∈ all) ∧ ∀ z, z ≠ x → z ≠ y → m' z = m₀ z
def NmPost (h₀ : Heap) (L : Addr) (s₁ : Shared) (keep : List (Addr × Obj)) (x y : Str) (m₀ : Str → Option Value) (Q : Flow → Shared → Prop) (f : Flow) (s₂ : Shared) : Prop :=
  match f with
  | .ret v => Q (.ret v) s₂
  | .brk => Q .next s₂
  | _ => NmEnd h₀ L s₁ keep x y m₀ s₂
theorem NmEnd.intro {h₀ : Heap} {L : Addr} {s₁ : Shared} {keep all : List (Addr × Obj)} {x y : Str} {m₀ m' : Str → Option Value} {h' : Heap} {tk : Nat} (F : Fr h₀ L h' m') (N : News h₀ L h' all) (hk : ∀ p ∈ keep, p ∈ all) (hm : ∀ z, z ≠ x → z ≠ y → m' z = m₀ z) :
    NmEnd h₀ L s₁ keep x y m₀ { s₁ with heap := h', toks := tk } := ⟨h', tk, m', all, rfl, F, N, hk, hm⟩

section
variable {prog : Program} {w : World} {A : Around} {E : Value → Shared → Prop} {s : Shared} {env : Env} {h₀ : Heap} {x : Str} {body : List Stmt} {Q : Flow → Shared → Prop}
theorem iter_names {ax : Addr} {lo : Obj} {vs : List Value} {n : Nat} {m₀ : Str → Option Value} {news : List (Addr × Obj)} (y : Str)
    (hh : A.handled = none) (F : Fr h₀ env.locals s.heap m₀) (N : News h₀ env.locals s.heap news) (hm : (ax, lo) ∈ news) (hc : lo.cls = .type "list") (hd : lo.data = .seq vs.toArray n) (hw : StrsAre vs HBL)
    (turn : ∀ (i : Int) (t : Tok) (I : Addr) (it : Obj) (u : Str → Option Value) (h : Heap) (tk : Nat), 0 ≤ i → i < 19 →
      Fr h₀ env.locals h (fun z => if z = x then some (.str (HB i) t) else if z = y then u z else m₀ z) → News h₀ env.locals h ((I, it) :: news) →
      wpAny (model prog w) A (execs body env) (NmPost h₀ env.locals { s with heap := h, toks := tk } ((I, it) :: news) x y m₀ Q) E { s with heap := h, toks := tk })
    (done : ∀ (u : Str → Option Value) (h : Heap) (tk : Nat), Fr h₀ env.locals h (fun z => if z = x then u z else if z = y then u z else m₀ z) → News h₀ env.locals h news → Q .next { s with heap := h, toks := tk }) :
    wpAny (model prog w) A (pyIter (.ref ax)) (fun it s₂ => LoopAtV prog w A h₀ env x body Q E it s₂) E s := by
  refine iter_listUnr hh F N hm hc hd fun I hI => ?_
  have off : ∀ p ∈ news, p.1 ≠ I := fun p hp => Nat.ne_of_lt (hI p hp)
  have mem : ∀ v ∈ vs, ∃ i t, 0 ≤ i ∧ i < 19 ∧ v = .str (HB i) t := by
    intro v hv
    obtain ⟨k, hk, e⟩ := List.mem_iff_getElem.mp hv
    have hlen : vs.length = 19 := hw.length
    have e0 : HBL[k]? = some (HBL.getD k Str.empty) := by
      rw [List.getD_eq_getElem?_getD, List.getElem?_eq_getElem (show k < HBL.length by show k < 19; omega)]; rfl
    obtain ⟨t', e1⟩ := hw.get k _ e0
    rw [List.getElem?_eq_getElem hk] at e1
    refine ⟨(k : Int), t', by omega, by omega, ?_⟩
    rw [← e, Option.some.inj e1]; rfl
  have go : ∀ (r : List Value), (∀ v ∈ r, v ∈ vs) → ∀ m, (∀ z, z ≠ x → z ≠ y → m z = m₀ z) → ListRest prog w A E h₀ env x body Q s I (ax, lo) r m news := by
    intro r
    induction r with
    | nil =>
      intro _ m hJ h tk F' N'
      refine done m h tk ?_ N'
      have e : (fun z => if z = x then m z else if z = y then m z else m₀ z) = m := by
        funext z
        by_cases h1 : z = x
        · simp [h1]
        · by_cases h2 : z = y
          · simp [h2]
          · simp only [if_neg h1, if_neg h2]; exact (hJ z h1 h2).symm
      rw [e]; exact F'
    | cons v r ih =>
      intro hr m hJ it h tk hit F' N'
      obtain ⟨i, t, i0, i1, rfl⟩ := mem v (hr v (List.mem_cons_self ..))
      have e : (fun z => if z = x then some (Value.str (HB i) t) else m z) = fun z => if z = x then some (Value.str (HB i) t) else if z = y then m z else m₀ z := by
        funext z
        by_cases h1 : z = x
        · simp [h1]
        · by_cases h2 : z = y
          · simp [h2]
          · simp only [if_neg h1, if_neg h2]; exact hJ z h1 h2
      rw [e] at F'
      refine wpAny_mono (turn i t I it m h tk i0 i1 F' N') (fun f s₂ p => ?_) fun _ _ q => q
      have fin : NmEnd h₀ env.locals { s with heap := h, toks := tk } ((I, it) :: news) x y m₀ s₂ →
          UnrEnd h₀ env.locals { s with heap := h, toks := tk } I it (fun m' n' => (ax, lo) ∈ n' ∧ ListRest prog w A E h₀ env x body Q s I (ax, lo) r m' n') s₂ := by
        rintro ⟨h', tk', m', all, e', F₂, N₂, hk, hm'⟩
        exact ⟨h', tk', m', news, e', F₂, fun p hp => N₂ p (hk p hp), off, hm, ih (fun v hv => hr v (List.mem_cons_of_mem _ hv)) m' hm'⟩
      cases f with
      | ret v => exact p
      | brk => exact p
      | next => exact fin p
      | cont => exact fin p
  exact go vs (fun _ h => h) m₀ fun _ _ _ => rfl
end
end Mine

/-! Part 6: the functions, each walked once. -/
namespace Mine
open PySem PySem.W PySem.Spec PySem.Calls PyProof.Rows
local macro_rules | `(tactic| walk_at "binaryOp Add float float") => `(tactic| (refine' add_ff ?k1 ?k2 ?k3 ?k4 ?_; (case k1 => first | (with_reducible exact rfl) | exact lit_mayan | exact lit_half | exact lit_arm | exact lit_greg); (case k2 => first | (with_reducible exact rfl) | exact lit_mayan | exact lit_half | exact lit_arm | exact lit_greg); (case k3 => omega); (case k4 => omega); try dsimp only))
local macro_rules | `(tactic| walk_at "binaryOp Sub float float") => `(tactic| (refine' sub_ff ?k1 ?k2 ?k3 ?k4 ?_; (case k1 => first | (with_reducible exact rfl) | exact lit_mayan | exact lit_half | exact lit_arm | exact lit_greg); (case k2 => first | (with_reducible exact rfl) | exact lit_mayan | exact lit_half | exact lit_arm | exact lit_greg); (case k3 => omega); (case k4 => omega); try dsimp only))
local macro_rules | `(tactic| walk_at "binaryOp Add float int") => `(tactic| (refine' add_fi ?k1 ?k2 ?k3 ?_ ?k4; (case k1 => first | (with_reducible exact rfl) | exact lit_mayan | exact lit_half | exact lit_arm | exact lit_greg); (case k2 => omega); (case k3 => omega); (case k4 => with_unfolding_all rfl); try dsimp only))
local macro_rules | `(tactic| walk_at "binaryOp Add int float") => `(tactic| (refine' add_if ?k1 ?k2 ?k3 ?_ ?k4; (case k1 => first | (with_reducible exact rfl) | exact lit_mayan | exact lit_half | exact lit_arm | exact lit_greg); (case k2 => omega); (case k3 => omega); (case k4 => with_unfolding_all rfl); try dsimp only))
local macro_rules | `(tactic| walk_at "binaryOp Sub float int") => `(tactic| (refine' sub_fi ?k1 ?k2 ?k3 ?_ ?k4; (case k1 => first | (with_reducible exact rfl) | exact lit_mayan | exact lit_half | exact lit_arm | exact lit_greg); (case k2 => omega); (case k3 => omega); (case k4 => with_unfolding_all rfl); try dsimp only))
local macro_rules | `(tactic| walk_at "binaryOp Mod float int") => `(tactic| (refine' mod_fi ?k1 ?k2 ?k3 ?k5 ?k6 ?_ ?k4; (case k1 => with_reducible exact rfl); (case k2 => omega); (case k3 => omega); (case k5 => omega); (case k6 => omega); (case k4 => with_unfolding_all rfl); try dsimp only))
local macro_rules | `(tactic| walk_at "binaryOp Div float int") => `(tactic| (refine' div_fi ?k1 ?k2 ?k3 ?_ ?k4; (case k1 => with_reducible exact rfl); (case k2 => omega); (case k3 => omega); (case k4 => with_unfolding_all rfl); try dsimp only))
local macro_rules | `(tactic| walk_at "call builtin:math.trunc") => `(tactic| (refine' trunc_h ?k1 ?k2 ?k3 ?_ ?k4; (case k1 => with_reducible exact rfl); (case k2 => omega); (case k3 => omega); (case k4 => with_unfolding_all rfl); try dsimp only))
local macro_rules | `(tactic| walk_at "call builtin:math.trunc") => `(tactic| (refine' trunc_q ?k1 ?k2 ?k3 ?k5 ?k6 ?_ ?k4; (case k1 => with_reducible exact rfl); (case k2 => omega); (case k3 => omega); (case k5 => omega); (case k6 => omega); (case k4 => with_unfolding_all rfl); try dsimp only))
local macro_rules | `(tactic| walk_at "call type:int") => `(tactic| (refine' int_h ?k1 ?k2 ?k3 ?_ ?k4; (case k1 => with_reducible exact rfl); (case k2 => omega); (case k3 => omega); (case k4 => with_unfolding_all rfl); try dsimp only))
local macro_rules | `(tactic| walk_at "binaryOp Div int int") => `(tactic| (refine' div_ii' ?k1 ?k2 ?k3 ?_ ?k4; (case k1 => omega); (case k2 => omega); (case k3 => omega); (case k4 => with_unfolding_all rfl); try dsimp only))
local macro_rules | `(tactic| walk_at "call builtin:math.floor") => `(tactic| (refine' floor_r ?k1 ?k2 ?k3 ?k5 ?k6 ?_ ?k4; (case k1 => with_reducible exact rfl); (case k2 => omega); (case k3 => omega); (case k5 => omega); (case k6 => omega); (case k4 => with_unfolding_all rfl); try dsimp only))
local macro_rules | `(tactic| walk_at "call builtin:math.floor") => `(tactic| (refine' floor_lit ?_ ?k4; (case k4 => with_unfolding_all rfl); try dsimp only))
local macro_rules | `(tactic| walk_at "compareOp Lt float int") => `(tactic| (refine' lt_h ?k1 ?k2 ?_; (case k1 => first | (with_reducible exact rfl) | exact lit_mayan | exact lit_half | exact lit_arm | exact lit_greg); (case k2 => omega); try dsimp only))
local macro_rules | `(tactic| walk_at "compareOp Lt int float") => `(tactic| (refine' lt_h' ?k1 ?k2 ?_; (case k1 => first | (with_reducible exact rfl) | exact lit_mayan | exact lit_half | exact lit_arm | exact lit_greg); (case k2 => omega); try dsimp only))
local macro_rules | `(tactic| walk_at "compareOp Lt float float") => `(tactic| (refine' lt_hh ?k1 ?k2 ?k3 ?k4 ?_; (case k1 => first | (with_reducible exact rfl) | exact lit_mayan | exact lit_half | exact lit_arm | exact lit_greg); (case k2 => first | (with_reducible exact rfl) | exact lit_mayan | exact lit_half | exact lit_arm | exact lit_greg); (case k3 => omega); (case k4 => omega); try dsimp only))
local macro_rules | `(tactic| walk_at "compareOp NotEq float float") => `(tactic| (refine' ne_hh ?k1 ?k2 ?k3 ?k4 ?_; (case k1 => first | (with_reducible exact rfl) | exact lit_mayan | exact lit_half | exact lit_arm | exact lit_greg); (case k2 => first | (with_reducible exact rfl) | exact lit_mayan | exact lit_half | exact lit_arm | exact lit_greg); (case k3 => omega); (case k4 => omega); try dsimp only))
local macro_rules | `(tactic| walk_at "binaryOp Pow int int") => `(tactic| (refine pow6 ?_; try dsimp only))
local macro_rules | `(tactic| walk_at "binaryOp Pow int int") => `(tactic| (refine pow4 ?_; try dsimp only))
local macro_rules | `(tactic| walk_at "compareOp NotEq ref ref") => `(tactic| (k_here; k_dflt (refine' ne_t2 ?k0 ?k1 ?k2 ?k3 ?k4 ?k5 ?k6 ?k7 ?k8 ?_; (case k0 => k_asm); (case k1 => k_mem); (case k2 => k_mem); (case k3 => first | units_room | exact Nat.le_of_ble_eq_true rfl); (case k4 => first | (with_reducible exact ahead_a _ _ ⟨by omega, by omega⟩) | omega); (case k5 => first | (with_reducible exact rfl) | exact lit_way | exact lit_xul); (case k6 => first | (with_reducible exact rfl) | exact lit_way | exact lit_xul); (case k7 => first | (with_reducible exact ahead_b _ _ ⟨by omega, by omega⟩) | omega); (case k8 => omega)); try dsimp only))
local macro_rules | `(tactic| walk_at "compareOp NotEq ref ref") => `(tactic| (k_here; k_dflt (refine' ne_t3 ?k0 ?k1 ?k2 ?k3 ?k4 ?k5 ?k6 ?_; (case k0 => k_asm); (case k1 => k_mem); (case k2 => k_mem); (case k3 => first | units_room | exact Nat.le_of_ble_eq_true rfl); (case k4 => omega); (case k5 => omega); (case k6 => omega)); try dsimp only))
local macro_rules | `(tactic| walk_at "binaryOp Mod int int") => `(tactic| (refine' mod_pp ?k1 ?_; (case k1 => omega); try dsimp only))
local macro_rules | `(tactic| walk_at "binaryOp FloorDiv int int") => `(tactic| (refine' div_pp ?k1 ?k2 ?k3 ?_; (case k1 => omega); (case k2 => omega); (case k3 => omega); try dsimp only))
local macro_rules | `(tactic| walk_at "compareOp Eq str str") => `(tactic| (refine' eq_names ?k1 ?k2 ?k3 ?k4 ?_; (case k1 => first | (with_reducible exact rfl) | exact lit_way | exact lit_xul); (case k2 => first | (with_reducible exact rfl) | exact lit_way | exact lit_xul); (case k3 => omega); (case k4 => omega); try dsimp only))
local macro_rules | `(tactic| walk_at "compareOp NotEq str str") => `(tactic| (refine' ne_names ?k1 ?k2 ?k3 ?k4 ?_; (case k1 => first | (with_reducible exact rfl) | exact lit_way | exact lit_xul); (case k2 => first | (with_reducible exact rfl) | exact lit_way | exact lit_xul); (case k3 => omega); (case k4 => omega); try dsimp only))
local macro_rules | `(tactic| walk_at "getMethod ref") => `(tactic| (k_here; (with_reducible show wpAny _ _ (getMethod (Value.ref _) (PySem.Str.ofString "index") _) _ _ _); k_dflt (refine' method_K ?k1 ?k2 ?k3 PySem.F.slot_list_index PySem.F.type_list_index ?_; (case k1 => k_asm); (case k2 => k_asm); (case k3 => k_is))))
local macro_rules | `(tactic| walk_at "call builtin:list.index") => `(tactic| (k_here; (with_reducible show wpAny _ _ (call (Value.builtin _) [Value.ref _, Value.str _ _]) _ _ _); k_dflt (refine' index_names ?k1 ?k2 ?k3 ?k4 ?_; (case k1 => ktb_isList); (case k2 => repeat constructor); (case k3 => with_reducible exact rfl); (case k4 => omega)); try dsimp only))
local macro_rules | `(tactic| walk_at "compareOp In int ref") => `(tactic| (k_here; k_dflt (refine' in_tup_ints ?k1 ?k2 ?_; (case k1 => ktb_isTup); (case k2 => repeat constructor)); try simp only [List.any_cons, List.any_nil, Bool.or_false]))
local macro_rules | `(tactic| cell_enter) => `(tactic| (refine' code_def ?k1 ?k2 ?k3 ?k4 ?k5 ?kA ?kF ?kK ?k6 ?k7 ?k8 ?k9 ?kB ?_ ?c2 ?c3 ?c4 ?c5; (case kA => exact rfl); (case kF => exact rfl); (case kK => assumption); (case k1 => k_asm); (case k2 => k_asm); (case k3 => k_asm); (case k4 => k_asm); (case k5 => k_asm); (case k6 => k_is); (case k7 => k_is); (case k8 => ktr_room); (case k9 => first | exact BindsTo.of_eq rfl | exact binds_K (by k_in) rfl (by k_is) rfl rfl rfl); (case c5 => decide); (case kB => exact locs rfl); (case c2 => exact rfl); (case c3 => exact rfl); (case c4 => exact rfl); k_whole; intro g' L' h' FG' F' N' B' X' T'; (try dsimp only); (try k_lift B'); (try k_fold)))

set_option maxHeartbeats 4000000 in
theorem haab_c (w : World) (loose : List Str) (mean : ExcName → Option Value) (mg mb : Str → Option Value) (k : Int) (tk : Tok) (h0 : 1168565 ≤ k) (h1 : k < 200000000) (h2 : k % 2 = 1) :
    CL w loose mean mg mb 86 [.float (HF k) tk] 1 (RetT2 (fun t => .int ((k / 2 - 583934) % 365 % 20) t) (fun t => .str (HB ((k / 2 - 583934) % 365 / 20)) t)) := by
  w_top off
  unfold CL
  k_fill
  intro dp un gd cn cs a ccd cl outer A₀ base h₀ L m news s Q E B F X N T hk hd hu hret
  refine wpAny_call ?_
  k_dflt cell_enter
  k_steps
  all_goals (refine' retT2_of hret ?rf ?rn ?rl ?e0 ?e1; (case rf => assumption); (case rn => first | assumption | (refine' cb_drop ?rm ?rs; (case rm => assumption); (case rs => (intro p hp; first | exact hp | exact List.mem_cons_of_mem _ hp | exact List.mem_cons_of_mem _ (List.mem_cons_of_mem _ hp))))); (case rl => assumption); (case e0 => exact ⟨_, congrArg (fun z => Value.int z _) (by omega)⟩); (case e1 => exact ⟨_, congrArg (fun z => Value.str (HB z) _) (by omega)⟩))
local macro_rules | `(tactic| walk_at "call ref") => `(tactic| (k_here; (with_reducible show wpAny _ _ (call (Value.ref 86) [Value.float _ _]) _ _ _); k_dflt (refine' CL.use (haab_c _ _ _ _ _ _ _ ?s0 ?s1 ?s2) ?k1 ?k2 ?k3 ?k4 ?k5 ?kK ?kd ?ku ?_; (case s0 => omega); (case s1 => omega); (case s2 => omega); (case k1 => k_asm); (case k2 => k_asm); (case k3 => k_asm); (case k4 => k_asm); (case k5 => k_asm); (case kK => first | exact rfl | assumption); (case kd => ktr_room); (case ku => ktr_units); unfold RetT2; intro D9 t91 t92 c9 h9 tk9 F9 N9 l9; (try k_lt l9); (try dsimp only); (try k_fold))))

set_option maxHeartbeats 4000000 in
theorem jdm_c (w : World) (loose : List Str) (mean : ExcName → Option Value) (mg mb : Str → Option Value) (a b c d e : Int) (ta tb tc td te : Tok) (h1 : 0 ≤ a ∧ a < 1000) (h2 : 0 ≤ b ∧ b < 1000) (h3 : 0 ≤ c ∧ c < 1000) (h4 : 0 ≤ d ∧ d < 1000) (h5 : 0 ≤ e ∧ e < 1000) :
    CL w loose mean mg mb 72 [.int a ta, .int b tb, .int c tc, .int d td, .int e te] 1 (RetV (fun t => .float (HF (1168565 + 2 * (144000 * a + 7200 * b + 360 * c + 20 * d + e))) t)) := by
  w_top off
  unfold CL
  k_fill
  intro dp un gd cn cs aa ccd cl outer A₀ base h₀ L m news s Q E B F X N T hk hd hu hret
  refine wpAny_call ?_
  k_dflt cell_enter
  k_steps
  all_goals (refine' retV_of hret ?rf ?rn ?e1; (case rf => assumption); (case rn => first | assumption | (refine' cb_drop ?rm ?rs; (case rm => assumption); (case rs => (intro p hp; first | exact hp | exact List.mem_cons_of_mem _ hp | exact List.mem_cons_of_mem _ (List.mem_cons_of_mem _ hp))))); (case e1 => exact ⟨_, congrArg (fun z => Value.float (HF z) _) (by omega)⟩))
local macro_rules | `(tactic| walk_at "call ref") => `(tactic| (k_here; (with_reducible show wpAny _ _ (call (Value.ref 72) [Value.int _ _, Value.int _ _, Value.int _ _, Value.int _ _, Value.int _ _]) _ _ _); k_dflt (refine' CL.use (jdm_c _ _ _ _ _ _ _ _ _ _ _ _ _ _ _ ?s0 ?s1 ?s2 ?s3 ?s4) ?k1 ?k2 ?k3 ?k4 ?k5 ?kK ?kd ?ku ?_; (case s0 => omega); (case s1 => omega); (case s2 => omega); (case s3 => omega); (case s4 => omega); (case k1 => k_asm); (case k2 => k_asm); (case k3 => k_asm); (case k4 => k_asm); (case k5 => k_asm); (case kK => first | exact rfl | assumption); (case kd => ktr_room); (case ku => ktr_units); unfold RetV; intro t9 h9 tk9 F9 N9; (try dsimp only); (try k_fold))))

set_option maxHeartbeats 4000000 in
theorem lc_c (w : World) (loose : List Str) (mean : ExcName → Option Value) (mg mb : Str → Option Value) (a b c d e : Int) (ta tb tc td te : Tok) (h1 : 0 ≤ a ∧ a < 500) (h2 : 0 ≤ b ∧ b < 1000) (h3 : 0 ≤ c ∧ c < 1000) (h4 : 0 ≤ d ∧ d < 1000) (h5 : 0 ≤ e ∧ e < 1000) :
    CL w loose mean mg mb 93 [.int a ta, .int b tb, .int c tc, .int d td, .int e te] 2 (RetT2 (fun t => .int ((144000 * a + 7200 * b + 360 * c + 20 * d + e + 348) % 365 % 20) t) (fun t => .str (HB ((144000 * a + 7200 * b + 360 * c + 20 * d + e + 348) % 365 / 20)) t)) := by
  w_top off
  unfold CL
  k_fill
  intro dp un gd cn cs aa ccd cl outer A₀ base h₀ L m news s Q E B F X N T hk hd hu hret
  refine wpAny_call ?_
  k_dflt cell_enter
  k_steps
  all_goals (refine' retT2_of hret ?rf ?rn ?rl ?e0 ?e1; (case rf => assumption); (case rn => first | assumption | (refine' cb_drop ?rm ?rs; (case rm => assumption); (case rs => (intro p hp; first | exact hp | exact List.mem_cons_of_mem _ hp | exact List.mem_cons_of_mem _ (List.mem_cons_of_mem _ hp))))); (case rl => assumption); (case e0 => exact ⟨_, congrArg (fun z => Value.int z _) (by omega)⟩); (case e1 => exact ⟨_, congrArg (fun z => Value.str (HB z) _) (by omega)⟩))
local macro_rules | `(tactic| walk_at "call ref") => `(tactic| (k_here; (with_reducible show wpAny _ _ (call (Value.ref 93) [Value.int _ _, Value.int _ _, Value.int _ _, Value.int _ _, Value.int _ _]) _ _ _); k_dflt (refine' CL.use (lc_c _ _ _ _ _ _ _ _ _ _ _ _ _ _ _ ?s0 ?s1 ?s2 ?s3 ?s4) ?k1 ?k2 ?k3 ?k4 ?k5 ?kK ?kd ?ku ?_; (case s0 => omega); (case s1 => omega); (case s2 => omega); (case s3 => omega); (case s4 => omega); (case k1 => k_asm); (case k2 => k_asm); (case k3 => k_asm); (case k4 => k_asm); (case k5 => k_asm); (case kK => first | exact rfl | assumption); (case kd => ktr_room); (case ku => ktr_units); unfold RetT2; intro D9 t91 t92 c9 h9 tk9 F9 N9 l9; (try k_lt l9); (try dsimp only); (try k_fold))))

set_option maxHeartbeats 4000000 in
theorem fjm_c (w : World) (loose : List Str) (mean : ExcName → Option Value) (mg mb : Str → Option Value) (k : Int) (tk : Tok) (h0 : 1168565 ≤ k) (h1 : k < 100000000) (h2 : k % 2 = 1) :
    CL w loose mean mg mb 79 [.float (HF k) tk] 1 (RetT5 (fun t => .int ((k / 2 - 584282) / 144000) t) (fun t => .int ((k / 2 - 584282) % 144000 / 7200) t) (fun t => .int ((k / 2 - 584282) % 7200 / 360) t) (fun t => .int ((k / 2 - 584282) % 360 / 20) t) (fun t => .int ((k / 2 - 584282) % 20) t)) := by
  w_top off
  unfold CL
  k_fill
  intro dp un gd cn cs a ccd cl outer A₀ base h₀ L m news s Q E B F X N T hk hd hu hret
  refine wpAny_call ?_
  k_dflt cell_enter
  k_steps
  all_goals (refine' retT5_of hret ?rf ?rn ?rl ?e0 ?e1 ?e2 ?e3 ?e4; (case rf => assumption); (case rn => first | assumption | (refine' cb_drop ?rm ?rs; (case rm => assumption); (case rs => (intro p hp; first | exact hp | exact List.mem_cons_of_mem _ hp | exact List.mem_cons_of_mem _ (List.mem_cons_of_mem _ hp))))); (case rl => assumption); (case e0 => exact ⟨_, congrArg (fun z => Value.int z _) (by omega)⟩); (case e1 => exact ⟨_, congrArg (fun z => Value.int z _) (by omega)⟩); (case e2 => exact ⟨_, congrArg (fun z => Value.int z _) (by omega)⟩); (case e3 => exact ⟨_, congrArg (fun z => Value.int z _) (by omega)⟩); (case e4 => exact ⟨_, congrArg (fun z => Value.int z _) (by omega)⟩))
local macro_rules | `(tactic| walk_at "call ref") => `(tactic| (k_here; (with_reducible show wpAny _ _ (call (Value.ref 79) [Value.float _ _]) _ _ _); k_dflt (refine' CL.use (fjm_c _ _ _ _ _ _ _ ?s0 ?s1 ?s2) ?k1 ?k2 ?k3 ?k4 ?k5 ?kK ?kd ?ku ?_; (case s0 => omega); (case s1 => omega); (case s2 => omega); (case k1 => k_asm); (case k2 => k_asm); (case k3 => k_asm); (case k4 => k_asm); (case k5 => k_asm); (case kK => first | exact rfl | assumption); (case kd => ktr_room); (case ku => ktr_units); unfold RetT5; intro D9 t91 t92 t93 t94 t95 c9 h9 tk9 F9 N9 l9; (try k_lt l9); (try dsimp only); (try k_fold))))

set_option maxHeartbeats 4000000 in
theorem fja_c (w : World) (loose : List Str) (mean : ExcName → Option Value) (mg mb : Str → Option Value) (k : Int) (tk : Tok) (h0 : 3845005 ≤ k) (h1 : k < 100000000) (h2 : k % 2 = 1) :
    CL w loose mean mg mb 145 [.float (HF k) tk] 1 (RetT3 (fun t => .int ((k / 2 - 1922502) / 365) t) (fun t => .int ((k / 2 - 1922502) % 365 / 30 + 1) t) (fun t => .int ((k / 2 - 1922502) % 365 % 30 + 1) t)) := by
  w_top off
  unfold CL
  k_fill
  intro dp un gd cn cs a ccd cl outer A₀ base h₀ L m news s Q E B F X N T hk hd hu hret
  refine wpAny_call ?_
  k_dflt cell_enter
  k_steps
  all_goals (refine' retT3_of hret ?rf ?rn ?rl ?e0 ?e1 ?e2; (case rf => assumption); (case rn => first | assumption | (refine' cb_drop ?rm ?rs; (case rm => assumption); (case rs => (intro p hp; first | exact hp | exact List.mem_cons_of_mem _ hp | exact List.mem_cons_of_mem _ (List.mem_cons_of_mem _ hp))))); (case rl => assumption); (case e0 => exact ⟨_, congrArg (fun z => Value.int z _) (by omega)⟩); (case e1 => exact ⟨_, congrArg (fun z => Value.int z _) (by omega)⟩); (case e2 => exact ⟨_, congrArg (fun z => Value.int z _) (by omega)⟩))
local macro_rules | `(tactic| walk_at "call ref") => `(tactic| (k_here; (with_reducible show wpAny _ _ (call (Value.ref 145) [Value.float _ _]) _ _ _); k_dflt (refine' CL.use (fja_c _ _ _ _ _ _ _ ?s0 ?s1 ?s2) ?k1 ?k2 ?k3 ?k4 ?k5 ?kK ?kd ?ku ?_; (case s0 => omega); (case s1 => omega); (case s2 => omega); (case k1 => k_asm); (case k2 => k_asm); (case k3 => k_asm); (case k4 => k_asm); (case k5 => k_asm); (case kK => first | exact rfl | assumption); (case kd => ktr_room); (case ku => ktr_units); unfold RetT3; intro D9 t91 t92 t93 c9 h9 tk9 F9 N9 l9; (try k_lt l9); (try dsimp only); (try k_fold))))

set_option maxHeartbeats 4000000 in
theorem vd_c (w : World) (loose : List Str) (mean : ExcName → Option Value) (mg mb : Str → Option Value) (y mo d : Int) (ty tm td : Tok) (h1 : 1 ≤ y) (h2 : 1 ≤ mo ∧ mo ≤ 13) (h3 : 1 ≤ d ∧ d ≤ 30) (h4 : mo = 13 → d ≤ 5) :
    CL w loose mean mg mb 122 [.int y ty, .int mo tm, .int d td, .none] 1 (RetV (fun _ => .bool true)) := by
  w_top off
  unfold CL
  k_fill
  intro dp un gd cn cs a ccd cl outer A₀ base h₀ L m news s Q E B F X N T hk hd hu hret
  (by_cases c13 : mo = 13)
  (have h5 := h4 c13)
  all_goals clear h4
  all_goals (refine wpAny_call ?_; k_dflt cell_enter)
  k_steps
  all_goals (refine' retV_of hret ?rf ?rn ?e1; (case rf => assumption); (case rn => first | assumption | (refine' cb_drop ?rm ?rs; (case rm => assumption); (case rs => (intro p hp; first | exact hp | exact List.mem_cons_of_mem _ hp | exact List.mem_cons_of_mem _ (List.mem_cons_of_mem _ hp))))); (case e1 => exact ⟨0, rfl⟩))
local macro_rules | `(tactic| walk_at "call ref") => `(tactic| (k_here; (with_reducible show wpAny _ _ (call (Value.ref 122) [Value.int _ _, Value.int _ _, Value.int _ _, Value.none]) _ _ _); k_dflt (refine' CL.use (vd_c _ _ _ _ _ _ _ _ _ _ _ ?s0 ?s1 ?s2 ?s3) ?k1 ?k2 ?k3 ?k4 ?k5 ?kK ?kd ?ku ?_; (case s0 => omega); (case s1 => omega); (case s2 => omega); (case s3 => omega); (case k1 => k_asm); (case k2 => k_asm); (case k3 => k_asm); (case k4 => k_asm); (case k5 => k_asm); (case kK => first | exact rfl | assumption); (case kd => ktr_room); (case ku => ktr_units); unfold RetV; intro t9 h9 tk9 F9 N9; (try dsimp only); (try k_fold))))

set_option maxHeartbeats 4000000 in
theorem tja_c (w : World) (loose : List Str) (mean : ExcName → Option Value) (mg mb : Str → Option Value) (y mo d : Int) (ty tm td : Tok) (h1 : 1 ≤ y ∧ y < 100000) (h2 : 1 ≤ mo ∧ mo ≤ 13) (h3 : 1 ≤ d ∧ d ≤ 30) (h4 : mo = 13 → d ≤ 5) :
    CL w loose mean mg mb 137 [.int y ty, .int mo tm, .int d td] 2 (RetV (fun t => .float (HF (3845003 + 2 * (365 * y + 30 * (mo - 1) + d))) t)) := by
  w_top off
  unfold CL
  k_fill
  intro dp un gd cn cs a ccd cl outer A₀ base h₀ L m news s Q E B F X N T hk hd hu hret
  refine wpAny_call ?_
  k_dflt cell_enter
  k_steps
  all_goals (refine' retV_of hret ?rf ?rn ?e1; (case rf => assumption); (case rn => first | assumption | (refine' cb_drop ?rm ?rs; (case rm => assumption); (case rs => (intro p hp; first | exact hp | exact List.mem_cons_of_mem _ hp | exact List.mem_cons_of_mem _ (List.mem_cons_of_mem _ hp))))); (case e1 => exact ⟨_, congrArg (fun z => Value.float (HF z) _) (by omega)⟩))
local macro_rules | `(tactic| walk_at "call ref") => `(tactic| (k_here; (with_reducible show wpAny _ _ (call (Value.ref 137) [Value.int _ _, Value.int _ _, Value.int _ _]) _ _ _); k_dflt (refine' CL.use (tja_c _ _ _ _ _ _ _ _ _ _ _ ?s0 ?s1 ?s2 ?s3) ?k1 ?k2 ?k3 ?k4 ?k5 ?kK ?kd ?ku ?_; (case s0 => omega); (case s1 => omega); (case s2 => omega); (case s3 => omega); (case k1 => k_asm); (case k2 => k_asm); (case k3 => k_asm); (case k4 => k_asm); (case k5 => k_asm); (case kK => first | exact rfl | assumption); (case kd => ktr_room); (case ku => ktr_units); unfold RetV; intro t9 h9 tk9 F9 N9; (try dsimp only); (try k_fold))))

set_option maxHeartbeats 4000000 in
theorem mla_c (w : World) (loose : List Str) (mean : ExcName → Option Value) (mg mb : Str → Option Value) (y mo : Int) (ty tm : Tok) (h1 : mo ≤ 13) :
    CL w loose mean mg mb 153 [.int y ty, .int mo tm] 2 (RetV (fun t => .int (if mo = 13 then 5 else 30) t)) := by
  w_top off
  unfold CL
  k_fill
  intro dp un gd cn cs a ccd cl outer A₀ base h₀ L m news s Q E B F X N T hk hd hu hret
  refine wpAny_call ?_
  k_dflt cell_enter
  k_steps
  all_goals (refine' retV_of hret ?rf ?rn ?e1; (case rf => assumption); (case rn => first | assumption | (refine' cb_drop ?rm ?rs; (case rm => assumption); (case rs => (intro p hp; first | exact hp | exact List.mem_cons_of_mem _ hp | exact List.mem_cons_of_mem _ (List.mem_cons_of_mem _ hp))))); (case e1 => exact ⟨_, congrArg (fun z => Value.int z _) (by split <;> omega)⟩))
local macro_rules | `(tactic| walk_at "call ref") => `(tactic| (k_here; (with_reducible show wpAny _ _ (call (Value.ref 153) [Value.int _ _, Value.int _ _]) _ _ _); k_dflt (refine' CL.use (mla_c _ _ _ _ _ _ _ _ _ ?s0) ?k1 ?k2 ?k3 ?k4 ?k5 ?kK ?kd ?ku ?_; (case s0 => omega); (case k1 => k_asm); (case k2 => k_asm); (case k3 => k_asm); (case k4 => k_asm); (case k5 => k_asm); (case kK => first | exact rfl | assumption); (case kd => ktr_room); (case ku => ktr_units); unfold RetV; intro t9 h9 tk9 F9 N9; (try dsimp only); (try k_fold))))

set_option maxHeartbeats 4000000 in
theorem mlm_c (w : World) (loose : List Str) (mean : ExcName → Option Value) (mg mb : Str → Option Value) (i : Int) (tk : Tok) (h1 : 0 ≤ i ∧ i < 19) :
    CL w loose mean mg mb 114 [.str (HB i) tk] 1 (RetV (fun t => .int (if i = 18 then 5 else 20) t)) := by
  w_top off
  unfold CL
  k_fill
  intro dp un gd cn cs a ccd cl outer A₀ base h₀ L m news s Q E B F X N T hk hd hu hret
  refine wpAny_call ?_
  k_dflt cell_enter
  k_steps
  all_goals (refine' retV_of hret ?rf ?rn ?e1; (case rf => assumption); (case rn => first | assumption | (refine' cb_drop ?rm ?rs; (case rm => assumption); (case rs => (intro p hp; first | exact hp | exact List.mem_cons_of_mem _ hp | exact List.mem_cons_of_mem _ (List.mem_cons_of_mem _ hp))))); (case e1 => exact ⟨_, congrArg (fun z => Value.int z _) (by split <;> omega)⟩))
local macro_rules | `(tactic| walk_at "call ref") => `(tactic| (k_here; (with_reducible show wpAny _ _ (call (Value.ref 114) [Value.str _ _]) _ _ _); k_dflt (refine' CL.use (mlm_c _ _ _ _ _ _ _ ?s0) ?k1 ?k2 ?k3 ?k4 ?k5 ?kK ?kd ?ku ?_; (case s0 => omega); (case k1 => k_asm); (case k2 => k_asm); (case k3 => k_asm); (case k4 => k_asm); (case k5 => k_asm); (case kK => first | exact rfl | assumption); (case kd => ktr_room); (case ku => ktr_units); unfold RetV; intro t9 h9 tk9 F9 N9; (try dsimp only); (try k_fold))))

set_option maxHeartbeats 4000000 in
theorem hc_c (w : World) (loose : List Str) (mean : ExcName → Option Value) (mg mb : Str → Option Value) (d i : Int) (td ti : Tok) (h1 : 0 ≤ d ∧ d < 20) (h2 : 0 ≤ i ∧ i < 19) :
    CL w loose mean mg mb 100 [.int d td, .str (HB i) ti] 1 (RetV (fun t => .int (20 * i + d) t)) := by
  w_top off
  unfold CL
  k_fill
  intro dp un gd cn cs a ccd cl outer A₀ base h₀ L m news s Q E B F X N T hk hd hu hret
  refine wpAny_call ?_
  k_dflt cell_enter
  k_steps
  all_goals (refine' retV_of hret ?rf ?rn ?e1; (case rf => assumption); (case rn => first | assumption | (refine' cb_drop ?rm ?rs; (case rm => assumption); (case rs => (intro p hp; first | exact hp | exact List.mem_cons_of_mem _ hp | exact List.mem_cons_of_mem _ (List.mem_cons_of_mem _ hp))))); (case e1 => exact ⟨_, congrArg (fun z => Value.int z _) (by omega)⟩))
local macro_rules | `(tactic| walk_at "call ref") => `(tactic| (k_here; (with_reducible show wpAny _ _ (call (Value.ref 100) [Value.int _ _, Value.str _ _]) _ _ _); k_dflt (refine' CL.use (hc_c _ _ _ _ _ _ _ _ _ ?s0 ?s1) ?k1 ?k2 ?k3 ?k4 ?k5 ?kK ?kd ?ku ?_; (case s0 => omega); (case s1 => omega); (case k1 => k_asm); (case k2 => k_asm); (case k3 => k_asm); (case k4 => k_asm); (case k5 => k_asm); (case kK => first | exact rfl | assumption); (case kd => ktr_room); (case ku => ktr_units); unfold RetV; intro t9 h9 tk9 F9 N9; (try dsimp only); (try k_fold))))

set_option maxHeartbeats 4000000 in
theorem nh_c (w : World) (loose : List Str) (mean : ExcName → Option Value) (mg mb : Str → Option Value) (i k : Int) (ti tk : Tok) (h0 : 1168565 ≤ k) (h1 : k < 100000000) (h2 : k % 2 = 1) (h3 : 0 ≤ i ∧ i < 19) (h4 : (k / 2 - 583934) % 365 / 20 ≠ i) :
    CL w loose mean mg mb 107 [.str (HB i) ti, .float (HF k) tk] 2 (RetV (fun t => .float (HF (k + 2 * ((20 * i + 1 - (k / 2 - 583934) % 365) % 365))) t)) := by
  w_top off
  unfold CL
  k_fill
  intro dp un gd cn cs a ccd cl outer A₀ base h₀ L m news s Q E B F X N T hk hd hu hret
  refine wpAny_call ?_
  k_dflt cell_enter
  k_steps
  all_goals (refine' retV_of hret ?rf ?rn ?e1; (case rf => assumption); (case rn => first | assumption | (refine' cb_drop ?rm ?rs; (case rm => assumption); (case rs => (intro p hp; first | exact hp | exact List.mem_cons_of_mem _ hp | exact List.mem_cons_of_mem _ (List.mem_cons_of_mem _ hp))))); (case e1 => exact ⟨_, congrArg (fun z => Value.float (HF z) _) (by omega)⟩))
local macro_rules | `(tactic| walk_at "call ref") => `(tactic| (k_here; (with_reducible show wpAny _ _ (call (Value.ref 107) [Value.str _ _, Value.float _ _]) _ _ _); k_dflt (refine' CL.use (nh_c _ _ _ _ _ _ _ _ _ ?s0 ?s1 ?s2 ?s3 ?s4) ?k1 ?k2 ?k3 ?k4 ?k5 ?kK ?kd ?ku ?_; (case s0 => omega); (case s1 => omega); (case s2 => omega); (case s3 => omega); (case s4 => omega); (case k1 => k_asm); (case k2 => k_asm); (case k3 => k_asm); (case k4 => k_asm); (case k5 => k_asm); (case kK => first | exact rfl | assumption); (case kd => ktr_room); (case ku => ktr_units); unfold RetV; intro t9 h9 tk9 F9 N9; (try dsimp only); (try k_fold))))

set_option maxHeartbeats 4000000 in
theorem ld_c (w : World) (loose : List Str) (mean : ExcName → Option Value) (mg mb : Str → Option Value) (ty tm td : Tok) :
    CL w loose mean mg mb 57 [.int 1000 ty, .int 1 tm, .int 1 td] 1 (RetV (fun _ => .bool true)) := by
  w_top off
  unfold CL
  k_fill
  intro dp un gd cn cs a ccd cl outer A₀ base h₀ L m news s Q E B F X N T hk hd hu hret
  refine wpAny_call ?_
  k_dflt cell_enter
  k_steps
  all_goals (refine' retV_of hret ?rf ?rn ?e1; (case rf => assumption); (case rn => first | assumption | (refine' cb_drop ?rm ?rs; (case rm => assumption); (case rs => (intro p hp; first | exact hp | exact List.mem_cons_of_mem _ hp | exact List.mem_cons_of_mem _ (List.mem_cons_of_mem _ hp))))); (case e1 => exact ⟨0, rfl⟩))
local macro_rules | `(tactic| walk_at "call ref") => `(tactic| (k_here; (with_reducible show wpAny _ _ (call (Value.ref 57) [Value.int _ _, Value.int _ _, Value.int _ _]) _ _ _); k_dflt (refine' CL.use (ld_c _ _ _ _ _ _ _ _) ?k1 ?k2 ?k3 ?k4 ?k5 ?kK ?kd ?ku ?_;  (case k1 => k_asm); (case k2 => k_asm); (case k3 => k_asm); (case k4 => k_asm); (case k5 => k_asm); (case kK => first | exact rfl | assumption); (case kd => ktr_room); (case ku => ktr_units); unfold RetV; intro t9 h9 tk9 F9 N9; (try dsimp only); (try k_fold))))

set_option maxHeartbeats 4000000 in
theorem tjg_c (w : World) (loose : List Str) (mean : ExcName → Option Value) (mg mb : Str → Option Value) (ty tm td : Tok) :
    CL w loose mean mg mb 64 [.int 1000 ty, .int 1 tm, .int 1 td] 2 (RetV (fun t => .float (HF 4172605) t)) := by
  w_top off
  unfold CL
  k_fill
  intro dp un gd cn cs a ccd cl outer A₀ base h₀ L m news s Q E B F X N T hk hd hu hret
  refine wpAny_call ?_
  k_dflt cell_enter
  k_steps
  all_goals (refine' retV_of hret ?rf ?rn ?e1; (case rf => assumption); (case rn => first | assumption | (refine' cb_drop ?rm ?rs; (case rm => assumption); (case rs => (intro p hp; first | exact hp | exact List.mem_cons_of_mem _ hp | exact List.mem_cons_of_mem _ (List.mem_cons_of_mem _ hp))))); (case e1 => exact ⟨_, congrArg (fun z => Value.float (HF z) _) (by omega)⟩))
local macro_rules | `(tactic| walk_at "call ref") => `(tactic| (k_here; (with_reducible show wpAny _ _ (call (Value.ref 64) [Value.int _ _, Value.int _ _, Value.int _ _]) _ _ _); k_dflt (refine' CL.use (tjg_c _ _ _ _ _ _ _ _) ?k1 ?k2 ?k3 ?k4 ?k5 ?kK ?kd ?ku ?_;  (case k1 => k_asm); (case k2 => k_asm); (case k3 => k_asm); (case k4 => k_asm); (case k5 => k_asm); (case kK => first | exact rfl | assumption); (case kd => ktr_room); (case ku => ktr_units); unfold RetV; intro t9 h9 tk9 F9 N9; (try dsimp only); (try k_fold))))

/-! Part 7: the law. -/
local macro_rules | `(tactic| walk_at "exec For Name Name cons nil") => `(tactic| (k_here; (rename Fr _ _ _ _ => lF'); (with_unfolding_all refine' For_invVF lF' ?ln1 ?ln2 ?_; (case ln1 => exact rfl); (case ln2 => exact rfl); k_whole)))
local macro_rules | `(tactic| walk_at "pyIter ref") => `(tactic| (k_here; k_dflt (refine' iter_names (Str.ofString "ahead") ?lq1 ?lq2 ?lq3 ?lq4 ?lq5 ?lq6 ?lq7 ?_ ?_; (case lq1 => with_unfolding_all rfl); (case lq2 => k_asm); (case lq3 => k_asm); (case lq4 => k_mem); (case lq5 => exact rfl); (case lq6 => exact rfl); (case lq7 => repeat constructor)); walk_say "NAMES"))
local macro_rules | `(tactic| walk_at "NmPost") => `(tactic| (dsimp only [NmPost]))
local macro_rules | `(tactic| walk_at "NmEnd") => `(tactic| (refine' NmEnd.intro ?le1 ?le2 ?le3 ?le4; (case le1 => assumption); (case le2 => assumption); (case le3 => (intro p hp; first | exact hp | exact List.mem_cons_of_mem _ hp | exact List.mem_cons_of_mem _ (List.mem_cons_of_mem _ hp) | exact List.mem_cons_of_mem _ (List.mem_cons_of_mem _ (List.mem_cons_of_mem _ hp)))); (case le4 => k_same2)))

set_option maxHeartbeats 8000000 in
theorem law_holds : PySem.Challenge.rw_ba5011_01.Holds := hd (by w_strict k_go)
end Mine

theorem PySem.Challenge.cw_ba5011_01_holds : PySem.Challenge.rw_ba5011_01.Holds :=
  Mine.law_holds
