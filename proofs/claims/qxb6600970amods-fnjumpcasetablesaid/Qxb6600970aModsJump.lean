import Derived.Test.Qxb6600970aModsRows
import Derived.Test.Qxb6600970aModsFlt
import Derived.WalkKit
import Derived.ProofKit
import Derived.WalkLawsBesides
namespace Go.Proofs.Qxb6600970aMods.Jump
open Go.RowKit

/-- The generator's next state, as the walk spells it. -/
def S (key : Int) : Int := IntKind.u64.wrap (IntKind.u64.wrap (key * 2862933555777685757) + 1)

theorem wrap_u64 (x : Int) : IntKind.u64.wrap x = x % 18446744073709551616 := by
  simp [IntKind.wrap, IntKind.signed, IntKind.bits]

theorem wrap_bd (x : Int) : 0 ≤ IntKind.u64.wrap x ∧ IntKind.u64.wrap x < 18446744073709551616 := by
  rw [wrap_u64]; omega

def Inv (key n kk bb jj : Int) : Prop :=
  (bb = -1 ∧ jj = 0 ∧ kk = key) ∨
  (0 ≤ bb ∧ bb < n ∧ bb < jj ∧ jj ≤ 4611686018427387904 ∧
    (n = 2 → (bb = 0 → (9223372036854775808 ≤ S key → jj = 1) ∧ (S key < 9223372036854775808 → 2 ≤ jj)) ∧ (bb = 1 → 9223372036854775808 ≤ S key)))

def JOk (key n r : Int) : Prop :=
  (n ≤ 0 → r = -1) ∧ (0 < n → 0 ≤ r ∧ r < n) ∧ (n = 2 → 9223372036854775808 ≤ S key → r = 1) ∧ (n = 2 → S key < 9223372036854775808 → r = 0)

theorem inv_step {key n kk bb jj j : Int} (h : Inv key n kk bb jj) (hlt : jj < n) (j1 : jj + 1 ≤ j) (j2 : j ≤ 4611686018427387904)
    (j3 : jj = 0 → S kk / 8589934592 + 1 ≤ 1073741824 → 2 ≤ j) (j4 : jj = 0 → 1073741824 < S kk / 8589934592 + 1 → j = 1) : Inv key n (S kk) jj j := by
  have hb := wrap_bd (IntKind.u64.wrap (kk * 2862933555777685757) + 1)
  have hS : 0 ≤ S kk ∧ S kk < 18446744073709551616 := hb
  right
  rcases h with ⟨rfl, rfl, rfl⟩ | ⟨b0, b1, b2, b3, b4⟩
  · refine ⟨by omega, hlt, by omega, j2, fun hn => ⟨fun _ => ⟨fun hs => j4 rfl (by omega), fun hs => j3 rfl (by omega)⟩, fun h => by omega⟩⟩
  · refine ⟨by omega, hlt, by omega, j2, fun hn => ⟨fun h => by omega, fun h => ?_⟩⟩
    have := ((b4 hn).1 (by omega)).2
    omega

theorem inv_end {key n kk bb jj : Int} (h : Inv key n kk bb jj) (hge : ¬ jj < n) : JOk key n bb := by
  rcases h with ⟨rfl, rfl, rfl⟩ | ⟨b0, b1, b2, b3, b4⟩
  · exact ⟨fun _ => rfl, fun _ => by omega, fun _ => by omega, fun _ => by omega⟩
  · refine ⟨fun _ => by omega, fun _ => ⟨b0, b1⟩, fun hn hs => ?_, fun hn hs => ?_⟩
    · by_cases h0 : bb = 0
      · have := ((b4 hn).1 h0).1 hs; omega
      · omega
    · by_cases h1 : bb = 1
      · have := (b4 hn).2 h1; omega
      · omega

theorem inv_bd {key n kk bb jj : Int} (h : Inv key n kk bb jj) : 0 ≤ jj ∧ jj ≤ 4611686018427387904 := by
  rcases h with ⟨rfl, rfl, rfl⟩ | ⟨b0, b1, b2, b3, b4⟩ <;> omega

/-- One round's floats, in the walk's own spelling. -/
theorem round_at (jj x : Int) (h0 : 0 ≤ jj) (h1 : jj < 2147483648) (x0 : 0 ≤ x) (x1 : x < 18446744073709551616) :
    ∃ (q p : Nat) (j : Int), floatBits .quo .f64 4746794007248502784 (floatOfInt .f64 (x / 8589934592 + 1)) = some q
      ∧ floatBits .mul .f64 (floatOfInt .f64 (jj + 1)) q = some p ∧ floatToIntVal .f64 p .i64 = some j
      ∧ jj + 1 ≤ j ∧ j ≤ 4611686018427387904 ∧ (jj = 0 → x / 8589934592 + 1 ≤ 1073741824 → 2 ≤ j) ∧ (jj = 0 → 1073741824 < x / 8589934592 + 1 → j = 1) := by
  obtain ⟨b, rfl⟩ : ∃ b : Nat, jj = (b : Int) := ⟨jj.toNat, by omega⟩
  obtain ⟨k, hk⟩ : ∃ k : Nat, x / 8589934592 + 1 = (k : Int) := ⟨(x / 8589934592 + 1).toNat, by omega⟩
  rw [hk]
  obtain ⟨q, p, j, e1, e2, e3, e4, e5, e6, e7⟩ := Flt.round_val (b + 1) k (by omega) (by omega) (by omega) (by omega)
  refine ⟨q, p, j, e1, e2, e3, by omega, by omega, ?_, ?_⟩
  · intro a1 a2; have := e6 (by omega) (by omega); omega
  · intro a1 a2; have := e7 (by omega) (by omega); omega

set_option maxHeartbeats 400000 in
theorem jump_any (key n : Int) (w : World) (k0 : 0 ≤ key) (k1 : key < 18446744073709551616) (n0 : -9223372036854775808 ≤ n) (n1 : n ≤ 2147483648) :
    Calls Trym.prog 15 #[.int .u64 key, .int .i64 n] w fun e w' => ∃ r : Int, e = .returned (.int .i64 r) ∧ JOk key n r ∧ w' = w := by
  go_enter Trym.func15, Trym.ntmps15
  go_wp2
  go_loop [0, 5, 6] (fun k b j => ∃ kk bb jj : Int, k = .int .u64 kk ∧ b = .int .i64 bb ∧ j = .int .i64 jj ∧ 0 ≤ kk ∧ kk < 18446744073709551616 ∧ Inv key n kk bb jj) (fun _ _ j => (n - intOf j).toNat)
  case atStart => exact ⟨key, -1, 0, rfl, rfl, rfl, k0, k1, Or.inl ⟨rfl, rfl, rfl⟩⟩
  case round =>
    obtain ⟨kk, bb, jj, rfl, rfl, rfl, a1, a2, hI⟩ := hrel
    obtain ⟨a3, a4⟩ := inv_bd hI
    by_cases hlt : jj < n
    · have hS := wrap_bd (IntKind.u64.wrap (kk * 2862933555777685757) + 1)
      obtain ⟨q, p, j, e1, e2, e3, e4, e5, e6, e7⟩ := round_at jj (S kk) a3 (by omega) hS.1 hS.2
      have hI' := inv_step hI hlt e4 e5 e6 e7
      have hq : ∀ t w, (binOp .quo t (.float .f64 4746794007248502784) (.float .f64 (floatOfInt .f64 (IntKind.u64.wrap (IntKind.u64.wrap (kk * 2862933555777685757) + 1) / 8589934592 + 1)))).run Trym.prog w = .ok (.float .f64 q) w := fun t w => run_float_arith w .quo t .f64 _ _ q e1
      have hm : ∀ t w, (binOp .mul t (.float .f64 (floatOfInt .f64 (jj + 1))) (.float .f64 q)).run Trym.prog w = .ok (.float .f64 p) w := fun t w => run_float_arith w .mul t .f64 _ _ p e2
      have hc : ∀ w, (convert 36 2 (.float .f64 p)).run Trym.prog w = .ok (.int .i64 j) w := fun w => run_convert_float_int w 36 2 .f64 .i64 p j (by rw [Trym.underlying36]; rfl) Trym.underlying2 e3
      clear e1 e2 e3 e6 e7 hI
      have HI : Hid (Inv key n (S kk) jj j) := hI'
      clear hI'
      go_wp2_with (simp only [hq, hm, hc])
      go_round
      case rel => exact ⟨_, _, _, rfl, rfl, rfl, hS.1, hS.2, HI.out⟩
      case measure => simp [intOf]; omega
    · have hJ := inv_end hI hlt
      go_wp2
      go_ret
      exact ⟨bb, rfl, hJ, rfl⟩
end Go.Proofs.Qxb6600970aMods.Jump
