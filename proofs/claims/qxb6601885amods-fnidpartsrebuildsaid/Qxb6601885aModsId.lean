import Derived.Test.Qxb6601885aModsRows
import Derived.WalkKit
import Derived.ProofKit
import Derived.WalkSpells
import Derived.WalkLawsBesides
import Derived.Laws.BitsLemmas
namespace Go.Proofs.Qxb6601885aMods.Id
open Go.RowKit
set_option linter.unusedVariables false

theorem toNat_i64 (x : Int) : (BitVec.ofInt 64 x).toNat = (x % 18446744073709551616).toNat := by
  rw [BitVec.toNat_ofInt]; rfl

/-- 'x & (2^i - 1)' on int64, whatever x's sign. -/
theorem and_mask (x : Int) (i : Nat) (hi : i ≤ 62) : bits .and .i64 x (2 ^ i - 1) = x % 2 ^ i := by
  have hp : (0 : Int) < 2 ^ i := Int.pow_pos (by decide)
  have hpn : 0 < 2 ^ i := Nat.two_pow_pos i
  have hle : 2 ^ i ≤ 2 ^ 62 := Nat.pow_le_pow_right (by decide) hi
  have hc : ((2 : Int) ^ i - 1) = ((2 ^ i - 1 : Nat) : Int) := by rw [Int.natCast_sub hpn]; simp
  have e : bits .and .i64 x (2 ^ i - 1) = IntKind.i64.wrap (((BitVec.ofInt 64 x &&& BitVec.ofInt 64 (2 ^ i - 1)).toNat : Nat) : Int) := rfl
  rw [e, BitVec.toNat_and, toNat_i64, hc, BitVec.ofInt_natCast, BitVec.toNat_ofNat, Nat.mod_eq_of_lt (a := 2 ^ i - 1) (by omega), Nat.and_two_pow_sub_one_eq_mod]
  have hd : ((2 ^ i : Nat) : Int) ∣ 18446744073709551616 := by
    have : (2 ^ i) ∣ 2 ^ 64 := Nat.pow_dvd_pow 2 (by omega)
    exact Int.natCast_dvd_natCast.2 this
  have h1 : (((x % 18446744073709551616).toNat % 2 ^ i : Nat) : Int) = x % 2 ^ i := by
    rw [Int.natCast_emod, Int.toNat_of_nonneg (by omega), Int.emod_emod_of_dvd x hd]
    simp
  have h2 : x % 2 ^ i < 2 ^ i := Int.emod_lt_of_pos x hp
  have h3 : 0 ≤ x % 2 ^ i := Int.emod_nonneg x (by omega)
  have h4 : ((2 : Int) ^ i) ≤ 2 ^ 62 := by exact_mod_cast hle
  rw [h1, IntKind.wrap_i64]
  omega

/-- 'x | y' on int64 where y lies below x's last bit. -/
theorem or_join (x y : Int) (i : Nat) (hi : i ≤ 62) (hx : x % 2 ^ i = 0) (hx0 : -9223372036854775808 ≤ x) (hx1 : x ≤ 9223372036854775807) (hy0 : 0 ≤ y) (hy1 : y < 2 ^ i) (hub : x + y ≤ 9223372036854775807) : bits .or .i64 x y = x + y := by
  have hle : 2 ^ i ≤ 2 ^ 62 := Nat.pow_le_pow_right (by decide) hi
  have h4 : ((2 : Int) ^ i) ≤ 2 ^ 62 := by exact_mod_cast hle
  obtain ⟨b, rfl⟩ := Int.eq_ofNat_of_zero_le hy0
  have hb : b < 2 ^ i := by exact_mod_cast hy1
  have e : bits .or .i64 x b = IntKind.i64.wrap (((BitVec.ofInt 64 x ||| BitVec.ofInt 64 (b : Int)).toNat : Nat) : Int) := rfl
  rw [e, BitVec.toNat_or, toNat_i64, BitVec.ofInt_natCast, BitVec.toNat_ofNat, Nat.mod_eq_of_lt (a := b) (by omega)]
  have hd : ((2 ^ i : Nat) : Int) ∣ 18446744073709551616 := by
    have : (2 ^ i) ∣ 2 ^ 64 := Nat.pow_dvd_pow 2 (by omega)
    exact Int.natCast_dvd_natCast.2 this
  generalize ha : (x % 18446744073709551616).toNat = a
  have ha' : (a : Int) = x % 18446744073709551616 := by rw [← ha, Int.toNat_of_nonneg (by omega)]
  have ham : a % 2 ^ i = 0 := by
    have : ((a % 2 ^ i : Nat) : Int) = 0 := by
      rw [Int.natCast_emod, ha', Int.emod_emod_of_dvd x hd]
      simpa using hx
    omega
  have hq : a = 2 ^ i * (a / 2 ^ i) := by
    have := Nat.div_add_mod a (2 ^ i)
    omega
  have hor : a ||| b = a + b := by
    conv => lhs; rw [hq]
    rw [← Nat.two_pow_add_eq_or_of_lt hb (a / 2 ^ i), ← hq]
  rw [hor, IntKind.wrap_i64, Int.natCast_add, ha']
  omega

set_option maxHeartbeats 400000 in
/-- (ID).Parts. -/
theorem parts5 (x : Int) (w : World) (h0 : -9223372036854775808 ≤ x) (h1 : x ≤ 9223372036854775807) :
    Calls Trym.prog 5 #[.int .i64 x] w fun e w' => e = .returned (.agg #[.int .i64 (x / 4194304 + 1288834974657), .int .i64 (x / 4096 % 1024), .int .i64 (x % 4096)]) ∧ w' = w.alloc (.cells #[.int .i64 (x / 4194304 + 1288834974657), .int .i64 (x / 4096 % 1024), .int .i64 (x % 4096)] 23) := by
  have m1 : bits .and .i64 (x / 4096) 1023 = x / 4096 % 1024 := and_mask (x / 4096) 10 (by omega)
  have m2 : bits .and .i64 x 4095 = x % 4096 := and_mask x 12 (by omega)
  go_enter Trym.func5, Trym.ntmps5
  go_wp2
  exact bodyPost_ret (v := .agg #[.int .i64 (x / 4194304 + 1288834974657), .int .i64 (x / 4096 % 1024), .int .i64 (x % 4096)]) (by simp [results, Trym.results5, go_sem]) rfl ⟨rfl, rfl⟩

set_option maxHeartbeats 400000 in
theorem rebuild3 (x : Int) (w : World) (h0 : -9223372036854775808 ≤ x) (h1 : x ≤ 9223372036854775807) :
    Calls Trym.prog 3 #[.int .i64 x] w fun e w' => e = .returned (.bool true) ∧ Grown w w' := by
  have j1 : bits .or .i64 (x / 4194304 * 4194304) (x / 4096 % 1024 * 4096) = x / 4194304 * 4194304 + x / 4096 % 1024 * 4096 :=
    or_join _ _ 22 (by omega) (by omega) (by omega) (by omega) (by omega) (by omega) (by omega)
  have j2 : bits .or .i64 (x / 4194304 * 4194304 + x / 4096 % 1024 * 4096) (x % 4096) = x := by
    rw [or_join _ _ 12 (by omega) (by omega) (by omega) (by omega) (by omega) (by omega) (by omega)]
    omega
  by_cases hx : 0 ≤ x
  · go_enter Trym.func3, Trym.ntmps3
    go_wp2_with (go_at_call 5; refine (parts5 _ _ h0 h1).mono ?_; rintro e w' ⟨rfl, rfl⟩)
    go_ret
    exact ⟨rfl, ((Grown.refl _).alloc _ _).alloc _ _⟩
  · go_enter Trym.func3, Trym.ntmps3
    go_wp2_with (go_at_call 5; refine (parts5 _ _ h0 h1).mono ?_; rintro e w' ⟨rfl, rfl⟩)
    go_ret
    exact ⟨rfl, ((Grown.refl _).alloc _ _).alloc _ _⟩

/-! ### the order -/
def cmp (a b : Int) : Int := if a < b then -1 else if b < a then 1 else 0
def cmpP (u1 k1 s1 u2 k2 s2 : Int) : Int := if cmp u1 u2 = 0 then (if cmp k1 k2 = 0 then cmp s1 s2 else cmp k1 k2) else cmp u1 u2

theorem order_law (a b : Int) : cmpP (a / 4194304 + 1288834974657) (a / 4096 % 1024) (a % 4096) (b / 4194304 + 1288834974657) (b / 4096 % 1024) (b % 4096) = cmp a b := by
  have e1 : a = a / 4194304 * 4194304 + a / 4096 % 1024 * 4096 + a % 4096 := by omega
  have e2 : b = b / 4194304 * 4194304 + b / 4096 % 1024 * 4096 + b % 4096 := by omega
  have ha : 0 ≤ a / 4096 % 1024 ∧ a / 4096 % 1024 < 1024 ∧ 0 ≤ a % 4096 ∧ a % 4096 < 4096 := by omega
  have hb : 0 ≤ b / 4096 % 1024 ∧ b / 4096 % 1024 < 1024 ∧ 0 ≤ b % 4096 ∧ b % 4096 < 4096 := by omega
  generalize a / 4194304 = u1 at *
  generalize a / 4096 % 1024 = k1 at *
  generalize a % 4096 = s1 at *
  generalize b / 4194304 = u2 at *
  generalize b / 4096 % 1024 = k2 at *
  generalize b % 4096 = s2 at *
  unfold cmpP cmp
  (repeat' split) <;> omega

set_option maxHeartbeats 400000 in
theorem cmp7 (a b : Int) (w : World) :
    Calls Trym.prog 7 #[.int .i64 a, .int .i64 b] w fun e w' => e = .returned (.int .i64 (cmp a b)) ∧ w' = w := by
  by_cases h1 : a < b
  · have e : cmp a b = -1 := by unfold cmp; rw [if_pos h1]
    rw [e]
    clear e
    go_enter Trym.func7, Trym.ntmps7
    go_wp2
    go_ret
    exact ⟨rfl, rfl⟩
  · by_cases h2 : b < a
    · have e : cmp a b = 1 := by unfold cmp; rw [if_neg h1, if_pos h2]
      rw [e]
      clear e
      go_enter Trym.func7, Trym.ntmps7
      go_wp2
      go_ret
      exact ⟨rfl, rfl⟩
    · have e : cmp a b = 0 := by unfold cmp; rw [if_neg h1, if_neg h2]
      rw [e]
      clear e
      go_enter Trym.func7, Trym.ntmps7
      go_wp2
      go_ret
      exact ⟨rfl, rfl⟩

set_option maxHeartbeats 400000 in
theorem cmp6 (u1 k1 s1 u2 k2 s2 : Int) (w : World) :
    Calls Trym.prog 6 #[.agg #[.int .i64 u1, .int .i64 k1, .int .i64 s1], .agg #[.int .i64 u2, .int .i64 k2, .int .i64 s2]] w fun e w' =>
      e = .returned (.int .i64 (cmpP u1 k1 s1 u2 k2 s2)) ∧ w' = (w.alloc (.cells #[.int .i64 u1, .int .i64 k1, .int .i64 s1] 23)).alloc (.cells #[.int .i64 u2, .int .i64 k2, .int .i64 s2] 23) := by
  unfold cmpP
  by_cases hu : cmp u1 u2 = 0
  · rw [if_pos hu]
    by_cases hk : cmp k1 k2 = 0
    · rw [if_pos hk]
      go_enter Trym.func6, Trym.ntmps6
      go_wp2_with (go_at_call 7; refine (cmp7 _ _ _).mono ?_; rintro e w' ⟨rfl, rfl⟩)
      go_ret
      exact ⟨rfl, rfl⟩
    · rw [if_neg hk]
      have hb : (cmp k1 k2 != 0) = true := by simpa using hk
      clear hk
      go_enter Trym.func6, Trym.ntmps6
      go_wp2_with (go_at_call 7; refine (cmp7 _ _ _).mono ?_; rintro e w' ⟨rfl, rfl⟩)
      go_ret
      exact ⟨rfl, rfl⟩
  · rw [if_neg hu]
    have hb : (cmp u1 u2 != 0) = true := by simpa using hu
    clear hu
    go_enter Trym.func6, Trym.ntmps6
    go_wp2_with (go_at_call 7; refine (cmp7 _ _ _).mono ?_; rintro e w' ⟨rfl, rfl⟩)
    go_ret
    exact ⟨rfl, rfl⟩

set_option maxHeartbeats 400000 in
theorem order4 (a b : Int) (w : World) (a0 : -9223372036854775808 ≤ a) (a1 : a ≤ 9223372036854775807) (b0 : -9223372036854775808 ≤ b) (b1 : b ≤ 9223372036854775807) :
    Calls Trym.prog 4 #[.int .i64 a, .int .i64 b] w fun e w' => e = .returned (.bool true) ∧ Grown w w' := by
  have HL : Hid (cmpP (a / 4194304 + 1288834974657) (a / 4096 % 1024) (a % 4096) (b / 4194304 + 1288834974657) (b / 4096 % 1024) (b % 4096) = cmp a b) := order_law a b
  go_enter Trym.func4, Trym.ntmps4
  go_wp2_with (first
    | (go_at_call 5; refine (parts5 _ _ (by assumption) (by assumption)).mono ?_; rintro e w' ⟨rfl, rfl⟩)
    | (go_at_call 6; refine (cmp6 _ _ _ _ _ _ _).mono ?_; rw [HL.out]; rintro e w' ⟨rfl, rfl⟩)
    | (go_at_call 7; refine (cmp7 _ _ _).mono ?_; rintro e w' ⟨rfl, rfl⟩))
  go_ret
  exact ⟨rfl, (((((Grown.refl _).alloc _ _).alloc _ _).alloc _ _).alloc _ _).alloc _ _ |>.alloc _ _⟩
end Go.Proofs.Qxb6601885aMods.Id
