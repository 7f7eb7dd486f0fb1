import Derived.Laws.FloatArith
namespace Go.Proofs.Qxb6600970aMods.Flt
open Ieee

/-- even rounding, unfolded with the gap -/
theorem cut_gap (n drop : Nat) (h : drop ≤ n.log2 + 2) (neg : Bool) :
    Toward.even.cut neg n drop = n / 2 ^ drop + ((2 ^ drop < 2 * (n % 2 ^ drop) || (2 ^ drop == 2 * (n % 2 ^ drop) && n / 2 ^ drop % 2 == 1)) : Bool).toNat := by
  simp only [Toward.cut]
  rw [Nat.min_eq_left h, Nat.one_shiftLeft]

theorem cut_lower (n drop a : Nat) (h : drop ≤ n.log2 + 2) (neg : Bool) (ha : a * 2 ^ drop ≤ n) : a ≤ Toward.even.cut neg n drop := by
  rw [cut_gap n drop h]
  have : a ≤ n / 2 ^ drop := (Nat.le_div_iff_mul_le (Nat.two_pow_pos _)).2 ha
  omega

theorem cut_upper (n drop a : Nat) (h : drop ≤ n.log2 + 2) (neg : Bool) (ha : n ≤ a * 2 ^ drop) : Toward.even.cut neg n drop ≤ a := by
  rw [cut_gap n drop h]
  have hp := Nat.two_pow_pos drop
  have h1 := Nat.div_add_mod n (2 ^ drop)
  generalize hq : n / 2 ^ drop = q at *
  generalize hr : n % 2 ^ drop = r at *
  generalize 2 ^ drop = p at *
  by_cases hr0 : r = 0
  · subst hr0
    have : ((decide (p < 2 * 0) || (p == 2 * 0 && q % 2 == 1)) : Bool) = false := by
      simp; omega
    rw [this]
    simp
    have : q * p ≤ a * p := by rw [Nat.mul_comm q p]; omega
    exact Nat.le_of_mul_le_mul_right this hp
  · have hlt : q < a := by
      have : q * p < a * p := by rw [Nat.mul_comm q p]; omega
      exact Nat.lt_of_mul_lt_mul_right this
    have := Bool.toNat_le ((decide (p < 2 * r) || (p == 2 * r && q % 2 == 1)) : Bool)
    omega


/-- A finite positive number's value, times 2^180. -/
def V (m : Nat) (e : Int) : Nat := m * 2 ^ (e + 180).toNat

theorem read_rung (r : Nat) (h1 : 2 ^ 52 ≤ r) (h2 : r < 2047 * 2 ^ 52) :
    double.read r = .number false (2 ^ 52 + r % 2 ^ 52) (-1074 + ((r / 2 ^ 52 - 1 : Nat) : Int)) := by
  have e1 : double.signWeight = 2 ^ 63 := rfl
  have e2 : double.binade = 2 ^ 52 := rfl
  have e3 : double.infRung = 2047 * 2 ^ 52 := rfl
  have e4 : double.leastPlace = -1074 := rfl
  have h3 : r / 2 ^ 63 = 0 := Nat.div_eq_of_lt (by omega)
  have h4 : r % 2 ^ 63 = r := Nat.mod_eq_of_lt (by omega)
  unfold Format.read
  simp only [e1, e2, e3, e4, h3, h4]
  rw [if_neg (by omega), if_pos h2]
  rfl

theorem read_kept (a kept : Nat) (ha : a ≤ 1500) (h1 : 2 ^ 52 ≤ kept) (h2 : kept ≤ 2 ^ 53) :
    ∃ M P, double.read (a * 2 ^ 52 + kept) = .number false M P ∧ -1074 ≤ P ∧ ((M = kept ∧ P = -1074 + (a : Int)) ∨ (kept = 2 ^ 53 ∧ M = 2 ^ 52 ∧ P = -1074 + (a : Int) + 1)) := by
  refine ⟨_, _, read_rung _ (by omega) (by omega), by omega, ?_⟩
  by_cases hk : kept = 2 ^ 53
  · right; subst hk
    refine ⟨rfl, ?_, ?_⟩ <;> omega
  · left
    refine ⟨?_, ?_⟩ <;> omega

theorem nearest_eq (mag : Nat) (place : Int) (hm : 0 < mag) (hp : -180 ≤ place) :
    double.nearest false mag place = min ((place + mag.log2 - 52 + 1074).toNat * 2 ^ 52 + Toward.even.cut false (mag <<< (52 - (mag.log2 : Int)).toNat) ((mag.log2 : Int) - 52).toNat) (2047 * 2 ^ 52) := by
  have e2 : double.binade = 2 ^ 52 := rfl
  have e3 : double.infRung = 2047 * 2 ^ 52 := rfl
  have e4 : double.leastPlace = -1074 := rfl
  have e5 : double.fractionBits = 52 := rfl
  unfold Format.nearest
  rw [if_neg (by omega)]
  simp only [e2, e3, e4, e5, Format.word]
  have hl : max (place + (mag.log2 : Int) - ((52 : Nat) : Int)) (-1074) = place + mag.log2 - 52 := by omega
  rw [hl]
  have h1 : place - (place + (mag.log2 : Int) - 52) = 52 - (mag.log2 : Int) := by omega
  have h2 : (place + (mag.log2 : Int) - 52) - place = (mag.log2 : Int) - 52 := by omega
  have h3 : (place + (mag.log2 : Int) - 52) - (-1074) = place + mag.log2 - 52 + 1074 := by omega
  rw [h1, h2, h3]
  simp

theorem V_split (m : Nat) (e : Int) (d : Nat) (h : -180 ≤ e) : V m (e + d) = m * 2 ^ d * 2 ^ (e + 180).toNat := by
  have h2 : (e + d + 180).toNat = d + (e + 180).toNat := by omega
  unfold V
  rw [h2, Nat.pow_add, Nat.mul_assoc]

theorem log2_of_V (m : Nat) (e : Int) (t : Nat) (hm : 0 < m) (he : -180 ≤ e) (h : V m e < 2 ^ t) : (m.log2 : Int) + e + 180 < t := by
  have g1 : 2 ^ m.log2 ≤ m := Nat.log2_self_le (by omega)
  have h1 : 2 ^ (m.log2 + (e + 180).toNat) < 2 ^ t := by
    rw [Nat.pow_add]
    exact Nat.lt_of_le_of_lt (Nat.mul_le_mul_right _ g1) h
  have := (Nat.pow_lt_pow_iff_right (by omega)).1 h1
  omega

/-- THE ROUNDING: what is at least (at most) a number of 53 bits stays so. -/
theorem near (mag : Nat) (place : Int) (hm : 0 < mag) (hp : -120 ≤ place) (hp2 : place + mag.log2 ≤ 200) :
    ∃ M P, double.read (double.nearest false mag place) = .number false M P ∧ M ≤ 2 ^ 53 ∧ 0 < M ∧ place + mag.log2 - 52 ≤ P ∧ P ≤ place + mag.log2 - 51
      ∧ (∀ (c : Nat) (u : Int), -180 ≤ u → c ≤ 2 ^ 53 → V c u ≤ V mag place → V c u ≤ V M P)
      ∧ (∀ (c : Nat) (u : Int), place + mag.log2 - 52 ≤ u → V mag place ≤ V c u → V M P ≤ V c u)
      ∧ (mag.log2 ≤ 52 → M = mag * 2 ^ (52 - mag.log2) ∧ P = place + mag.log2 - 52) := by
  have g1 : 2 ^ mag.log2 ≤ mag := Nat.log2_self_le (by omega)
  have g2 : mag < 2 ^ (mag.log2 + 1) := Nat.lt_log2_self
  rw [nearest_eq mag place hm (by omega)]
  generalize hg : mag.log2 = g at *
  -- what is kept
  have hk : ∃ kept, Toward.even.cut false (mag <<< (52 - (g : Int)).toNat) ((g : Int) - 52).toNat = kept ∧ 2 ^ 52 ≤ kept ∧ kept ≤ 2 ^ 53
      ∧ (∀ (c : Nat) (u : Int), -180 ≤ u → c ≤ 2 ^ 53 → V c u ≤ V mag place → V c u ≤ V kept (place + g - 52))
      ∧ (∀ (c : Nat) (u : Int), place + g - 52 ≤ u → V mag place ≤ V c u → V kept (place + g - 52) ≤ V c u)
      ∧ (g ≤ 52 → kept = mag * 2 ^ (52 - g) ∧ kept ≠ 2 ^ 53) := by
    by_cases hg52 : g ≤ 52
    · have e1 : (52 - (g : Int)).toNat = 52 - g := by omega
      have e2 : ((g : Int) - 52).toNat = 0 := by omega
      rw [e1, e2, Nat.shiftLeft_eq]
      have e3 : Toward.even.cut false (mag * 2 ^ (52 - g)) 0 = mag * 2 ^ (52 - g) :=
        Nat.le_antisymm (cut_upper _ _ _ (by omega) _ (by simp)) (cut_lower _ _ _ (by omega) _ (by simp))
      have e4 : V (mag * 2 ^ (52 - g)) (place + g - 52) = V mag place := by
        have : place = (place + g - 52) + ((52 - g : Nat) : Int) := by omega
        conv => rhs; rw [this, V_split _ _ _ (by omega)]
        rfl
      have e5 : 2 ^ g * 2 ^ (52 - g) = 2 ^ 52 := by rw [← Nat.pow_add]; congr 1; omega
      have e6 : 2 ^ (g + 1) * 2 ^ (52 - g) = 2 ^ 53 := by rw [← Nat.pow_add]; congr 1; omega
      refine ⟨_, e3, ?_, ?_, ?_, ?_, ?_⟩
      · rw [← e5]; exact Nat.mul_le_mul_right _ g1
      · rw [← e6]; exact Nat.mul_le_mul_right _ (by omega)
      · intro c u _ _ h; rw [e4]; exact h
      · intro c u _ h; rw [e4]; exact h
      · intro _
        refine ⟨rfl, ?_⟩
        rw [← e6]
        exact Nat.ne_of_lt (Nat.mul_lt_mul_of_pos_right g2 (Nat.two_pow_pos _))
    · obtain ⟨d, rfl⟩ : ∃ d, g = 52 + d := ⟨g - 52, by omega⟩
      have e1 : (52 - ((52 + d : Nat) : Int)).toNat = 0 := by omega
      have e2 : (((52 + d : Nat) : Int) - 52).toNat = d := by omega
      rw [e1, e2, Nat.shiftLeft_zero]
      have hd : d ≤ mag.log2 + 2 := by omega
      have k1 : 2 ^ 52 ≤ Toward.even.cut false mag d := cut_lower _ _ _ hd _ (by rw [← Nat.pow_add]; exact g1)
      have k2 : Toward.even.cut false mag d ≤ 2 ^ 53 := cut_upper _ _ _ hd _ (by rw [← Nat.pow_add]; exact Nat.le_of_lt (by rw [show 53 + d = 52 + d + 1 by omega]; exact g2))
      have hlast : place + ((52 + d : Nat) : Int) - 52 = place + (d : Int) := by omega
      refine ⟨_, rfl, k1, k2, ?_, ?_, ?_⟩
      · intro c u hu hc h
        rw [hlast]
        by_cases hul : place + (d : Int) ≤ u
        · obtain ⟨t, rfl⟩ : ∃ t : Nat, u = place + ((t + d : Nat) : Int) := ⟨(u - place - d).toNat, by omega⟩
          rw [V_split _ _ _ (by omega)] at h ⊢
          rw [V_split _ _ _ (by omega)]
          have h' : c * 2 ^ (t + d) ≤ mag := Nat.le_of_mul_le_mul_right h (Nat.two_pow_pos _)
          rw [Nat.pow_add, ← Nat.mul_assoc] at h' ⊢
          exact Nat.mul_le_mul_right _ (Nat.mul_le_mul_right _ (cut_lower _ _ _ hd _ h'))
        · obtain ⟨t, ht⟩ : ∃ t : Nat, place + (d : Int) = u + ((t + 1 : Nat) : Int) := ⟨(place + d - u - 1).toNat, by omega⟩
          rw [ht, V_split _ _ _ (by omega)]
          unfold V
          refine Nat.mul_le_mul_right _ ?_
          have : 1 ≤ 2 ^ t := Nat.two_pow_pos _
          calc c ≤ 2 ^ 52 * (2 * 1) := by omega
            _ ≤ 2 ^ 52 * (2 * 2 ^ t) := Nat.mul_le_mul_left _ (Nat.mul_le_mul_left _ this)
            _ ≤ Toward.even.cut false mag d * (2 * 2 ^ t) := Nat.mul_le_mul_right _ k1
            _ = _ := by rw [Nat.pow_succ, Nat.mul_comm 2]
      · intro c u hul h
        rw [hlast] at hul ⊢
        obtain ⟨t, rfl⟩ : ∃ t : Nat, u = place + ((t + d : Nat) : Int) := ⟨(u - place - d).toNat, by omega⟩
        rw [V_split _ _ _ (by omega)] at h ⊢
        rw [V_split _ _ _ (by omega)]
        have h' : mag ≤ c * 2 ^ (t + d) := Nat.le_of_mul_le_mul_right h (Nat.two_pow_pos _)
        rw [Nat.pow_add, ← Nat.mul_assoc] at h' ⊢
        exact Nat.mul_le_mul_right _ (Nat.mul_le_mul_right _ (cut_upper _ _ _ hd _ h'))
      · intro h; exact absurd h hg52
  obtain ⟨kept, he, k1, k2, lo, hi, ex⟩ := hk
  rw [he, Nat.min_eq_left (by omega)]
  obtain ⟨M, P, hr, hP, hMP⟩ := read_kept (place + g - 52 + 1074).toNat kept (by omega) k1 k2
  have hV : V M P = V kept (place + g - 52) := by
    rcases hMP with ⟨rfl, hp'⟩ | ⟨rfl, rfl, hp'⟩
    · congr 1; omega
    · have : P = (place + g - 52) + ((1 : Nat) : Int) := by omega
      rw [this, V_split _ _ _ (by omega)]
      rfl
  refine ⟨M, P, hr, by omega, by omega, by omega, by omega, ?_, ?_, ?_⟩
  · intro c u hu hc h; rw [hV]; exact lo c u hu hc h
  · intro c u hu h; rw [hV]; exact hi c u hu h
  · intro h
    obtain ⟨x1, x2⟩ := ex h
    rcases hMP with ⟨rfl, hp'⟩ | ⟨rfl, rfl, hp'⟩
    · exact ⟨x1, by omega⟩
    · exact absurd rfl x2

theorem cutz (n drop : Nat) : Toward.zero.cut false n drop = n / 2 ^ drop := by
  simp only [Toward.cut]
  rw [Nat.one_shiftLeft]
  by_cases h : drop ≤ n.log2 + 2
  · rw [Nat.min_eq_left h]; simp
  · rw [Nat.min_eq_right (by omega)]
    have h1 : n < 2 ^ (n.log2 + 1) := Nat.lt_log2_self
    have h2 : 2 ^ (n.log2 + 1) ≤ 2 ^ (n.log2 + 2) := Nat.pow_le_pow_right (by omega) (by omega)
    have h3 : 2 ^ (n.log2 + 1) ≤ 2 ^ drop := Nat.pow_le_pow_right (by omega) (by omega)
    rw [Nat.div_eq_of_lt (by omega), Nat.div_eq_of_lt (by omega)]
    simp

theorem toInt_V (M : Nat) (P : Int) (h : -180 ≤ P) : (Datum.number false M P).toInt .zero = some ((V M P / 2 ^ 180 : Nat) : Int) := by
  simp only [Datum.toInt, Datum.integral, signed, cutz]
  congr 2
  rw [if_neg (by simp), Nat.shiftLeft_zero, Nat.shiftLeft_eq]
  congr 1
  by_cases h0 : 0 ≤ P
  · obtain ⟨p, rfl⟩ := Int.eq_ofNat_of_zero_le h0
    have e1 : (-(p : Int)).toNat = 0 := by omega
    have e2 : ((p : Int)).toNat = p := by omega
    have e3 : ((p : Int) + 180).toNat = p + 180 := by omega
    rw [V, e1, e2, e3, Nat.pow_add, ← Nat.mul_assoc, Nat.mul_div_cancel _ (Nat.two_pow_pos _)]
    simp
  · obtain ⟨d, hd⟩ : ∃ d : Nat, P = -(d : Int) := ⟨(-P).toNat, by omega⟩
    subst hd
    have e1 : (- -(d : Int)).toNat = d := by omega
    have e2 : (-(d : Int)).toNat = 0 := by omega
    have e3 : (-(d : Int) + 180).toNat = 180 - d := by omega
    rw [V, e1, e2, e3]
    have e4 : (2 : Nat) ^ 180 = 2 ^ d * 2 ^ (180 - d) := by rw [← Nat.pow_add]; congr 1; omega
    rw [e4, Nat.mul_div_mul_right _ _ (Nat.two_pow_pos _)]
    simp

theorem ofInt (k : Nat) : floatOfInt .f64 (k : Int) = double.nearest false k 0 := by
  have h : decide ((k : Int) < 0) = false := by simp
  simp only [floatOfInt, FloatKind.nearest, FloatKind.encode, FloatKind.format, Format.write, h, Int.natAbs_natCast]

/-- A whole number of at most 53 bits, read back. -/
theorem read_int (k : Nat) (h0 : 0 < k) (h : k.log2 ≤ 52) : double.read (floatOfInt .f64 (k : Int)) = .number false (k * 2 ^ (52 - k.log2)) ((k.log2 : Int) - 52) := by
  rw [ofInt]
  obtain ⟨M, P, hr, _, _, _, _, _, _, ex⟩ := near k 0 h0 (by omega) (by omega)
  obtain ⟨rfl, rfl⟩ := ex h
  rw [hr]
  congr 1; omega

theorem log2_top (k : Nat) (h0 : 0 < k) (h : k.log2 ≤ 52) : (k * 2 ^ (52 - k.log2)).log2 = 52 := by
  have g1 : 2 ^ k.log2 ≤ k := Nat.log2_self_le (by omega)
  have g2 : k < 2 ^ (k.log2 + 1) := Nat.lt_log2_self
  generalize k.log2 = g at *
  have e5 : 2 ^ g * 2 ^ (52 - g) = 2 ^ 52 := by rw [← Nat.pow_add]; congr 1; omega
  have e6 : 2 ^ (g + 1) * 2 ^ (52 - g) = 2 ^ 53 := by rw [← Nat.pow_add]; congr 1; omega
  have h1 : 2 ^ 52 ≤ k * 2 ^ (52 - g) := by rw [← e5]; exact Nat.mul_le_mul_right _ g1
  have h2 : k * 2 ^ (52 - g) < 2 ^ 53 := by rw [← e6]; exact Nat.mul_lt_mul_of_pos_right g2 (Nat.two_pow_pos _)
  exact (Nat.log2_eq_iff (by omega)).2 ⟨h1, h2⟩

theorem read_31 : double.read 4746794007248502784 = .number false (2 ^ 52) (-21) := by decide +kernel

theorem log2_31 (k : Nat) (h0 : 0 < k) (h : k ≤ 2 ^ 31) : k.log2 ≤ 31 := by
  have : k.log2 < 32 := (Nat.log2_lt (by omega)).2 (by omega)
  omega

/-- The quotient's exact datum. -/
theorem quo_datum (k : Nat) (h0 : 0 < k) (h : k ≤ 2 ^ 31) :
    ∃ m, (double.read 4746794007248502784).quotient 54 (double.read (floatOfInt .f64 (k : Int))) = some (.number false m (-24 - (k.log2 : Int)))
      ∧ 0 < m ∧ m ≤ 2 ^ 55
      ∧ 2 ^ (24 + k.log2) ≤ m
      ∧ (k ≤ 2 ^ 30 → 2 ^ (25 + k.log2) ≤ m)
      ∧ (2 ^ 30 < k → m * 2 ^ (156 - k.log2) ≤ (2 ^ 53 - 1) * 2 ^ 128) := by
  have hl := log2_31 k h0 h
  have g1 : 2 ^ k.log2 ≤ k := Nat.log2_self_le (by omega)
  have g2 : k < 2 ^ (k.log2 + 1) := Nat.lt_log2_self
  rw [read_31, read_int k h0 (by omega)]
  have e1 : (2 ^ 52 : Nat).log2 = 52 := by decide +kernel
  have hN : 0 < k * 2 ^ (52 - k.log2) := Nat.mul_pos h0 (Nat.two_pow_pos _)
  simp only [Datum.quotient]
  rw [if_neg (by omega), log2_top k h0 (by omega), e1]
  have hN52 : 2 ^ 52 ≤ k * 2 ^ (52 - k.log2) := by
    have : 2 ^ k.log2 * 2 ^ (52 - k.log2) = 2 ^ 52 := by rw [← Nat.pow_add]; congr 1; omega
    rw [← this]; exact Nat.mul_le_mul_right _ g1
  have eD : (2 ^ 52 : Nat) <<< (54 + 52 - 52) = 2 ^ 106 := by decide +kernel
  rw [eD]
  have hkN : ∀ a : Nat, a ≤ 31 → k ≤ 2 ^ a → 2 ^ (54 + k.log2 - a) ≤ 2 ^ 106 / (k * 2 ^ (52 - k.log2)) := by
    intro a ha hk
    rw [Nat.le_div_iff_mul_le hN]
    calc 2 ^ (54 + k.log2 - a) * (k * 2 ^ (52 - k.log2)) ≤ 2 ^ (54 + k.log2 - a) * (2 ^ a * 2 ^ (52 - k.log2)) := Nat.mul_le_mul_left _ (Nat.mul_le_mul_right _ hk)
      _ = 2 ^ 106 := by rw [← Nat.pow_add, ← Nat.pow_add]; congr 1; omega
  have hdm := Nat.div_add_mod (2 ^ 106) (k * 2 ^ (52 - k.log2))
  have hs := Bool.toNat_le (2 ^ 106 % (k * 2 ^ (52 - k.log2)) != 0)
  have hs0 : 2 ^ 106 % (k * 2 ^ (52 - k.log2)) = 0 → (2 ^ 106 % (k * 2 ^ (52 - k.log2)) != 0).toNat = 0 := by intro h; simp [h]
  have hQ : (2 ^ 106 / (k * 2 ^ (52 - k.log2))) * 2 ^ 52 ≤ 2 ^ 106 - 2 ^ 106 % (k * 2 ^ (52 - k.log2)) := by
    calc (2 ^ 106 / (k * 2 ^ (52 - k.log2))) * 2 ^ 52 ≤ (2 ^ 106 / (k * 2 ^ (52 - k.log2))) * (k * 2 ^ (52 - k.log2)) := Nat.mul_le_mul_left _ hN52
      _ ≤ _ := by rw [Nat.mul_comm]; omega
  generalize hq : 2 ^ 106 / (k * 2 ^ (52 - k.log2)) = Q at *
  generalize hr : 2 ^ 106 % (k * 2 ^ (52 - k.log2)) = r at *
  generalize hss : (r != 0).toNat = sN at *
  have f1 := hkN 31 (by omega) h
  refine ⟨2 * Q + sN, ?_, ?_, ?_, ?_, ?_, ?_⟩
  · simp only [Bool.xor_false]; congr 2; omega
  · have := Nat.two_pow_pos (54 + k.log2 - 31); omega
  · by_cases hr0 : r = 0
    · have := hs0 hr0; omega
    · omega
  · have : 2 ^ (24 + k.log2) = 2 * 2 ^ (54 + k.log2 - 31) := by rw [show 24 + k.log2 = (54 + k.log2 - 31) + 1 by omega, Nat.pow_succ, Nat.mul_comm]
    omega
  · intro hk
    have f2 := hkN 30 (by omega) hk
    have : 2 ^ (25 + k.log2) = 2 * 2 ^ (54 + k.log2 - 30) := by rw [show 25 + k.log2 = (54 + k.log2 - 30) + 1 by omega, Nat.pow_succ, Nat.mul_comm]
    omega
  · intro hk
    by_cases hk31 : k = 2 ^ 31
    · subst hk31
      have hlg : (2 ^ 31 : Nat).log2 = 31 := by decide +kernel
      rw [hlg] at hq hr ⊢
      have a1 : Q = 2 ^ 54 := by rw [← hq]
      have a2 : r = 0 := by rw [← hr]
      rw [hs0 a2, a1]
      decide +kernel
    · have hlg : k.log2 = 30 := (Nat.log2_eq_iff (by omega)).2 ⟨by omega, by omega⟩
      rw [hlg] at hdm ⊢
      have h3 : (2 ^ 30 + 1) * (2 ^ (52 - 30) * Q) ≤ 2 ^ 106 := by
        calc (2 ^ 30 + 1) * (2 ^ (52 - 30) * Q) ≤ k * (2 ^ (52 - 30) * Q) := Nat.mul_le_mul_right _ hk
          _ = k * 2 ^ (52 - 30) * Q := by rw [Nat.mul_assoc]
          _ ≤ _ := by omega
      have h4 : 2 * Q + sN ≤ (2 ^ 53 - 1) * 4 := by omega
      calc (2 * Q + sN) * 2 ^ (156 - 30) ≤ (2 ^ 53 - 1) * 4 * 2 ^ (156 - 30) := Nat.mul_le_mul_right _ h4
        _ = _ := by decide +kernel

/-- The quotient 2^31 / k as a float. -/
theorem quo_val (k : Nat) (h0 : 0 < k) (h : k ≤ 2 ^ 31) :
    ∃ q M P, floatBits .quo .f64 4746794007248502784 (floatOfInt .f64 (k : Int)) = some q ∧ double.read q = .number false M P
      ∧ 0 < M ∧ M ≤ 2 ^ 53 ∧ -52 ≤ P ∧ P ≤ 0 ∧ V 1 0 ≤ V M P ∧ V M P ≤ V 1 31 ∧ (k ≤ 2 ^ 30 → V 1 1 ≤ V M P) ∧ (2 ^ 30 < k → V M P ≤ V (2 ^ 53 - 1) (-52)) := by
  obtain ⟨m, hm, m0, m1, m2, m3, m4⟩ := quo_datum k h0 h
  have hl := log2_31 k h0 h
  have g0 : 24 + k.log2 ≤ m.log2 := (Nat.le_log2 (by omega)).2 m2
  have g1 : m.log2 < 56 := (Nat.log2_lt (by omega)).2 (by omega)
  have vm : V m (-24 - (k.log2 : Int)) = m * 2 ^ (156 - k.log2) := by
    unfold V; congr 2; omega
  obtain ⟨M, P, hr, M1, M0, P0, P1, lo, hi, _⟩ := near m (-24 - (k.log2 : Int)) m0 (by omega) (by omega)
  refine ⟨double.nearest false m (-24 - (k.log2 : Int)), M, P, ?_, hr, M0, M1, by omega, ?_, ?_, ?_, ?_, ?_⟩
  · simp only [floatBits, FloatKind.format, Format.div]
    have : double.fractionBits + 2 = 54 := rfl
    rw [this, hm]; rfl
  · omega
  · refine lo 1 0 (by omega) (by omega) ?_
    rw [vm]
    calc V 1 0 = 2 ^ (24 + k.log2) * 2 ^ (156 - k.log2) := by unfold V; rw [← Nat.pow_add, Nat.one_mul]; congr 1; omega
      _ ≤ _ := Nat.mul_le_mul_right _ m2
  · refine hi 1 31 (by omega) ?_
    rw [vm]
    calc m * 2 ^ (156 - k.log2) ≤ 2 ^ 55 * 2 ^ (156 - k.log2) := Nat.mul_le_mul_right _ m1
      _ ≤ 2 ^ 55 * 2 ^ 156 := Nat.mul_le_mul_left _ (Nat.pow_le_pow_right (by omega) (by omega))
      _ = V 1 31 := by decide +kernel
  · intro hk
    refine lo 1 1 (by omega) (by omega) ?_
    rw [vm]
    calc V 1 1 = 2 ^ (25 + k.log2) * 2 ^ (156 - k.log2) := by unfold V; rw [← Nat.pow_add, Nat.one_mul]; congr 1; omega
      _ ≤ _ := Nat.mul_le_mul_right _ (m3 hk)
  · intro hk
    have hb := m4 hk
    have := log2_of_V m (-24 - (k.log2 : Int)) 181 m0 (by omega) (by rw [vm]; exact Nat.lt_of_le_of_lt hb (by decide +kernel))
    exact hi _ (-52) (by omega) (by rw [vm]; exact hb)

/-- ONE ROUND OF THE LOOP, IN NUMBERS: 'int64(float64(b) * (float64(1<<31) / float64(k)))'. -/
theorem round_val (b k : Nat) (b0 : 0 < b) (b1 : b ≤ 2 ^ 31) (h0 : 0 < k) (h : k ≤ 2 ^ 31) :
    ∃ q p j : Nat, floatBits .quo .f64 4746794007248502784 (floatOfInt .f64 (k : Int)) = some q ∧ floatBits .mul .f64 (floatOfInt .f64 (b : Int)) q = some p
      ∧ floatToIntVal .f64 p .i64 = some (j : Int) ∧ b ≤ j ∧ j ≤ 2 ^ 62 ∧ (b = 1 → k ≤ 2 ^ 30 → 2 ≤ j) ∧ (b = 1 → 2 ^ 30 < k → j = 1) := by
  obtain ⟨q, M, P, hq, rq, M0, M1, P0, P1, v1, v2, v3, v4⟩ := quo_val k h0 h
  have hl := log2_31 b b0 b1
  have g1 : 2 ^ b.log2 ≤ b := Nat.log2_self_le (by omega)
  have g2 : b < 2 ^ (b.log2 + 1) := Nat.lt_log2_self
  have hm0 : 0 < b * 2 ^ (52 - b.log2) * M := Nat.mul_pos (Nat.mul_pos b0 (Nat.two_pow_pos _)) M0
  have vm : V (b * 2 ^ (52 - b.log2) * M) ((b.log2 : Int) - 52 + P) = b * V M P := by
    have e : P = ((b.log2 : Int) - 52 + P) + ((52 - b.log2 : Nat) : Int) := by omega
    conv => rhs; rw [e, V_split _ _ _ (by omega)]
    unfold V
    rw [← Nat.mul_assoc, ← Nat.mul_assoc, Nat.mul_assoc b, Nat.mul_comm _ M, ← Nat.mul_assoc]
  have vlo : V b 0 ≤ V (b * 2 ^ (52 - b.log2) * M) ((b.log2 : Int) - 52 + P) := by
    rw [vm]
    calc V b 0 = b * V 1 0 := by unfold V; rw [Nat.one_mul]
      _ ≤ _ := Nat.mul_le_mul_left _ v1
  have vhi : V (b * 2 ^ (52 - b.log2) * M) ((b.log2 : Int) - 52 + P) ≤ V 1 62 := by
    rw [vm]
    calc b * V M P ≤ 2 ^ 31 * V 1 31 := Nat.mul_le_mul b1 v2
      _ = _ := by decide +kernel
  have hlg := log2_of_V _ ((b.log2 : Int) - 52 + P) 243 hm0 (by omega) (Nat.lt_of_le_of_lt vhi (by decide +kernel))
  obtain ⟨M', P', hr, M1', M0', P0', P1', lo, hi, _⟩ := near (b * 2 ^ (52 - b.log2) * M) ((b.log2 : Int) - 52 + P) hm0 (by omega) (by omega)
  have wlo := lo b 0 (by omega) (by omega) vlo
  have whi := hi 1 62 (by omega) vhi
  have hj1 : b ≤ V M' P' / 2 ^ 180 := by
    rw [Nat.le_div_iff_mul_le (Nat.two_pow_pos _)]; exact wlo
  have hj2 : V M' P' / 2 ^ 180 ≤ 2 ^ 62 := by
    refine Nat.div_le_of_le_mul ?_
    rw [Nat.mul_comm]
    exact Nat.le_trans whi (by decide +kernel)
  have hP' : -180 ≤ P' := by
    have : (0 : Int) ≤ ((b * 2 ^ (52 - b.log2) * M).log2 : Int) := Int.natCast_nonneg _
    omega
  refine ⟨q, double.nearest false (b * 2 ^ (52 - b.log2) * M) ((b.log2 : Int) - 52 + P), V M' P' / 2 ^ 180, hq, ?_, ?_, hj1, hj2, ?_, ?_⟩
  · simp only [floatBits, FloatKind.format, Format.mul]
    rw [read_int b b0 (by omega), rq]
    rfl
  · simp only [floatToIntVal, FloatKind.decode, FloatKind.format]
    rw [hr, toInt_V M' P' hP']
    simp only
    rw [if_pos]
    have e1 : IntKind.min .i64 = -9223372036854775808 := rfl
    have e2 : IntKind.max .i64 = 9223372036854775807 := rfl
    rw [e1, e2]
    omega
  · intro hb hk
    subst hb
    have := lo 1 1 (by omega) (by omega) (by rw [vm, Nat.one_mul]; exact v3 hk)
    rw [Nat.le_div_iff_mul_le (Nat.two_pow_pos _)]
    exact Nat.le_trans (by decide +kernel) this
  · intro hb hk
    subst hb
    have vh : V (1 * 2 ^ (52 - Nat.log2 1) * M) ((Nat.log2 1 : Int) - 52 + P) ≤ V (2 ^ 53 - 1) (-52) := by rw [vm, Nat.one_mul]; exact v4 hk
    have hlg2 := log2_of_V _ _ 181 hm0 (by omega) (Nat.lt_of_le_of_lt vh (by decide +kernel))
    have := hi (2 ^ 53 - 1) (-52) (by omega) vh
    have h2 : V M' P' / 2 ^ 180 < 2 := Nat.div_lt_of_lt_mul (Nat.lt_of_le_of_lt this (by decide +kernel))
    omega

end Go.Proofs.Qxb6600970aMods.Flt
