import Derived.Test.Qxb6601773aModsRows
import Derived.Test.Qxb6601773aModsDfa
import Derived.WalkKit
import Derived.ProofKit
import Derived.WalkSpells
import Derived.WalkLawsBesides
namespace Go.Proofs.Qxb6601773aMods.Num
open Go.RowKit Go.Proofs.Qxb6601773aMods.Dfa
set_option linter.unusedVariables false

theorem ret_int {k : IntKind} {a b : Int} (h : a = b) : Ending.returned (.int k a) = .returned (.int k b) := by rw [h]

/-- The bytes of a slice, each in its cell. -/
def Bytes (w : World) (b off len : Nat) (f : Nat → Int) : Prop := ∀ k, k < len → w.cell? ⟨b, off + k, none⟩ = some (.int .u8 (f k))

set_option maxHeartbeats 400000 in
theorem digits12 (b off len cap i0 : Nat) (f : Nat → Int) (w : World) (hf : ∀ k, 0 ≤ f k ∧ f k ≤ 255) (hl : len ≤ 1048576) (hi : i0 ≤ len) (hc : Bytes w b off len f) :
    Calls Trym.prog 12 #[.slice (some ⟨b, off, none⟩) len cap, .int .i64 i0] w fun e w' => e = .returned (.int .i64 (dE f len i0 : Nat)) ∧ w' = w := by
  go_enter Trym.func12, Trym.ntmps12
  go_wp2
  go_loop [1] (fun t => ∃ k : Nat, k ≤ len ∧ t = .int .i64 k ∧ Hid (dE f len k = dE f len i0)) (fun t => len - (intOf t).toNat)
  case atStart => exact ⟨i0, hi, rfl, rfl⟩
  case round =>
    obtain ⟨k, hk, rfl, hd⟩ := hrel
    by_cases hlt : k < len
    · have c := hc k hlt
      obtain ⟨f0, f1⟩ := hf k
      have hyes := fun h => dE_yes f len (i := k) hlt h
      have hno := fun h => dE_no f len (i := k) h
      generalize f k = x at *
      by_cases h1 : 48 ≤ x
      · by_cases h2 : x ≤ 57
        · have hd' : Hid (dE f len (k + 1) = dE f len i0) := (hyes ⟨h1, h2⟩).symm.trans hd.out
          clear hyes hno
          go_wp2
          go_round
          case rel => exact ⟨k + 1, by omega, by go_num, hd'⟩
          case measure => simp [intOf]; omega
        · have hd' : Hid (dE f len i0 = k) := hd.out.symm.trans (hno (by omega))
          clear hyes hno
          go_wp2
          go_ret
          exact ⟨ret_int (by rw [hd'.out]), rfl⟩
      · have hd' : Hid (dE f len i0 = k) := hd.out.symm.trans (hno (by omega))
        clear hyes hno
        go_wp2
        go_ret
        exact ⟨ret_int (by rw [hd'.out]), rfl⟩
    · have hd' : Hid (dE f len i0 = k) := hd.out.symm.trans (dE_no f len (by omega))
      go_wp2
      go_ret
      exact ⟨ret_int (by rw [hd'.out]), rfl⟩

theorem acc_val (s : Int) : acc s = (s == 2 || s == 3 || s == 5 || s == 8) := by
  unfold acc
  rw [Bool.eq_iff_iff]
  simp [or_assoc]

set_option maxHeartbeats 400000 in
theorem acc11 (s : Int) (w : World) (h0 : 0 ≤ s) (h1 : s ≤ 8) :
    Calls Trym.prog 11 #[.int .i64 s] w fun e w' => e = .returned (.bool (acc s)) ∧ w' = w := by
  obtain rfl | rfl | rfl | rfl | rfl | rfl | rfl | rfl | rfl : s = 0 ∨ s = 1 ∨ s = 2 ∨ s = 3 ∨ s = 4 ∨ s = 5 ∨ s = 6 ∨ s = 7 ∨ s = 8 := by omega
  all_goals
    go_enter Trym.func11, Trym.ntmps11
    go_wp2
    go_ret
    exact ⟨rfl, rfl⟩

theorem nstep_dig (c : Int) (d0 : 49 ≤ c) (d1 : c ≤ 57) : nstep 0 c = 3 ∧ nstep 1 c = 3 ∧ nstep 2 c = 9 ∧ nstep 3 c = 3 ∧ nstep 4 c = 5 ∧ nstep 5 c = 5 ∧ nstep 6 c = 8 ∧ nstep 7 c = 8 ∧ nstep 8 c = 8 := by
  simp [nstep]; omega

theorem nstep_not (c : Int) (d : c < 48 ∨ 57 < c) (n1 : ¬ c = 43) (n2 : ¬ c = 45) (n3 : ¬ c = 46) (n4 : ¬ c = 69) (n5 : ¬ c = 101) : nstep 0 c = 9 ∧ nstep 1 c = 9 ∧ nstep 2 c = 9 ∧ nstep 3 c = 9 ∧ nstep 4 c = 9 ∧ nstep 5 c = 9 ∧ nstep 6 c = 9 ∧ nstep 7 c = 9 ∧ nstep 8 c = 9 := by
  simp [nstep]; omega

set_option maxHeartbeats 4000000 in
/-- numStep at a digit from 1 to 9. -/
theorem step_dig (s c : Int) (w : World) (h0 : 0 ≤ s) (h1 : s ≤ 8) (d0 : 49 ≤ c) (d1 : c ≤ 57) :
    Calls Trym.prog 10 #[.int .i64 s, .int .u8 c] w fun e w' => e = .returned (.int .i64 (nstep s c)) ∧ w' = w := by
  obtain ⟨e0, e1, e2, e3, e4, e5, e6, e7, e8⟩ := nstep_dig c d0 d1
  have b1 : (c == 43) = false := by simp; omega
  have b2 : (c == 45) = false := by simp; omega
  have b3 : (c == 46) = false := by simp; omega
  have b4 : (c == 69) = false := by simp; omega
  have b5 : (c == 101) = false := by simp; omega
  have b6 : (c == 48) = false := by simp; omega
  obtain rfl | rfl | rfl | rfl | rfl | rfl | rfl | rfl | rfl : s = 0 ∨ s = 1 ∨ s = 2 ∨ s = 3 ∨ s = 4 ∨ s = 5 ∨ s = 6 ∨ s = 7 ∨ s = 8 := by omega
  all_goals
    simp only [e0, e1, e2, e3, e4, e5, e6, e7, e8]
    clear e0 e1 e2 e3 e4 e5 e6 e7 e8
    go_enter Trym.func10, Trym.ntmps10
    go_wp2
    go_ret
    exact ⟨rfl, rfl⟩

set_option maxHeartbeats 4000000 in
/-- numStep at a byte that no number holds. -/
theorem step_not (s c : Int) (w : World) (h0 : 0 ≤ s) (h1 : s ≤ 8) (d : c < 48 ∨ 57 < c) (n1 : ¬ c = 43) (n2 : ¬ c = 45) (n3 : ¬ c = 46) (n4 : ¬ c = 69) (n5 : ¬ c = 101) :
    Calls Trym.prog 10 #[.int .i64 s, .int .u8 c] w fun e w' => e = .returned (.int .i64 (nstep s c)) ∧ w' = w := by
  obtain ⟨e0, e1, e2, e3, e4, e5, e6, e7, e8⟩ := nstep_not c d n1 n2 n3 n4 n5
  have b1 : (c == 43) = false := by simpa using n1
  have b2 : (c == 45) = false := by simpa using n2
  have b3 : (c == 46) = false := by simpa using n3
  have b4 : (c == 69) = false := by simpa using n4
  have b5 : (c == 101) = false := by simpa using n5
  have b6 : (c == 48) = false := by simp; omega
  rcases d with d | d
  all_goals
    obtain rfl | rfl | rfl | rfl | rfl | rfl | rfl | rfl | rfl : s = 0 ∨ s = 1 ∨ s = 2 ∨ s = 3 ∨ s = 4 ∨ s = 5 ∨ s = 6 ∨ s = 7 ∨ s = 8 := by omega
    all_goals
      simp only [e0, e1, e2, e3, e4, e5, e6, e7, e8]
      clear e0 e1 e2 e3 e4 e5 e6 e7 e8
      go_enter Trym.func10, Trym.ntmps10
      go_wp2
      go_ret
      exact ⟨rfl, rfl⟩

set_option maxHeartbeats 4000000 in
/-- numStep at the bytes that have a part of their own. -/
theorem step_own (s c : Int) (w : World) (h0 : 0 ≤ s) (h1 : s ≤ 8) (d : c = 43 ∨ c = 45 ∨ c = 46 ∨ c = 48 ∨ c = 69 ∨ c = 101) :
    Calls Trym.prog 10 #[.int .i64 s, .int .u8 c] w fun e w' => e = .returned (.int .i64 (nstep s c)) ∧ w' = w := by
  rcases d with rfl | rfl | rfl | rfl | rfl | rfl
  all_goals
    obtain rfl | rfl | rfl | rfl | rfl | rfl | rfl | rfl | rfl : s = 0 ∨ s = 1 ∨ s = 2 ∨ s = 3 ∨ s = 4 ∨ s = 5 ∨ s = 6 ∨ s = 7 ∨ s = 8 := by omega
    all_goals
      go_enter Trym.func10, Trym.ntmps10
      go_wp2
      go_ret
      exact ⟨rfl, rfl⟩

theorem step10 (s c : Int) (w : World) (h0 : 0 ≤ s) (h1 : s ≤ 8) :
    Calls Trym.prog 10 #[.int .i64 s, .int .u8 c] w fun e w' => e = .returned (.int .i64 (nstep s c)) ∧ w' = w := by
  by_cases d : c = 43 ∨ c = 45 ∨ c = 46 ∨ c = 48 ∨ c = 69 ∨ c = 101
  · exact step_own s c w h0 h1 d
  · by_cases g : 49 ≤ c ∧ c ≤ 57
    · exact step_dig s c w h0 h1 g.1 g.2
    · exact step_not s c w h0 h1 (by omega) (by omega) (by omega) (by omega) (by omega) (by omega)

theorem nstep_bd (s c : Int) : 1 ≤ nstep s c ∧ nstep s c ≤ 9 := by
  unfold nstep
  (repeat' split) <;> omega
end Go.Proofs.Qxb6601773aMods.Num
