import Derived.Test.Qxb6601773aModsStep
namespace Go.Proofs.Qxb6601773aMods.Num
open Go.RowKit Go.Proofs.Qxb6601773aMods.Dfa
set_option linter.unusedVariables false

set_option maxHeartbeats 400000 in
theorem dfa_out (a : Option Addr) (len cap : Nat) (pos : Int) (w : World) (hl : len ≤ 1048576) (h0 : len ≤ pos) (h1 : pos ≤ 9223372036854775807) :
    Calls Trym.prog 7 #[.slice a len cap, .int .i64 pos] w fun e w' => e = .returned (.tuple #[.bool false, .int .i64 pos]) ∧ w' = w := by
  have hA := fun w => acc11 0 w (by omega) (by omega)
  have e0 : acc 0 = false := by decide
  rw [e0] at hA
  go_enter Trym.func7, Trym.ntmps7
  go_wp2
  go_loop [6, 7] (fun s i => s = .int .i64 0 ∧ i = .int .i64 pos) (fun _ _ => 0)
  case atStart => exact ⟨rfl, rfl⟩
  case round =>
    obtain ⟨rfl, rfl⟩ := hrel
    go_wp2_with (go_at_call 11; refine (hA _).mono ?_; rintro e w' ⟨rfl, rfl⟩)
    go_ret2
    exact ⟨rfl, rfl⟩

set_option maxHeartbeats 400000 in
theorem dfa7 (b off len cap p : Nat) (f : Nat → Int) (w : World) (hl : len ≤ 1048576) (hp : p ≤ len) (hc : Bytes w b off len f) :
    Calls Trym.prog 7 #[.slice (some ⟨b, off, none⟩) len cap, .int .i64 p] w fun e w' => e = .returned (.tuple #[.bool (acc (run f len 0 p).1), .int .i64 (run f len 0 p).2]) ∧ w' = w := by
  go_enter Trym.func7, Trym.ntmps7
  go_wp2
  go_loop [6, 7] (fun s i => ∃ (q : Int) (k : Nat), k ≤ len ∧ 0 ≤ q ∧ q ≤ 8 ∧ s = .int .i64 q ∧ i = .int .i64 k ∧ Hid (run f len q k = run f len 0 p)) (fun _ i => len - (intOf i).toNat)
  case atStart => exact ⟨0, p, hp, by omega, by omega, rfl, rfl, rfl⟩
  case round =>
    obtain ⟨q, k, hk, q0, q1, rfl, rfl, hr⟩ := hrel
    by_cases hlt : k < len
    · have c := hc k hlt
      have hS := fun w => step10 q (f k) w q0 q1
      obtain ⟨n0, n1⟩ := nstep_bd q (f k)
      by_cases h9 : nstep q (f k) = 9
      · have hr' : Hid (run f len 0 p = (q, k)) := hr.out.symm.trans (run_stop f len (by omega))
        have hA := fun w => acc11 q w q0 q1
        rw [h9] at hS
        clear h9 n0 n1
        go_wp2_with (first
          | (go_at_call 10; refine (hS _).mono ?_; rintro e w' ⟨rfl, rfl⟩)
          | (go_at_call 11; refine (hA _).mono ?_; rintro e w' ⟨rfl, rfl⟩))
        go_ret2
        rw [hr'.out]
        exact ⟨rfl, rfl⟩
      · have hr' : Hid (run f len (nstep q (f k)) (k + 1) = run f len 0 p) := (run_go f len hlt h9).symm.trans hr.out
        clear hr
        generalize nstep q (f k) = t at *
        have hb : (t == 9) = false := by simpa using h9
        go_wp2_with (go_at_call 10; refine (hS _).mono ?_; rintro e w' ⟨rfl, rfl⟩)
        go_round
        case rel => exact ⟨t, k + 1, by omega, by omega, by omega, rfl, by go_num, hr'⟩
        case measure => simp [intOf]; omega
    · have hr' : Hid (run f len 0 p = (q, k)) := hr.out.symm.trans (run_stop f len (by omega))
      have hA := fun w => acc11 q w q0 q1
      go_wp2_with (go_at_call 11; refine (hA _).mono ?_; rintro e w' ⟨rfl, rfl⟩)
      go_ret2
      rw [hr'.out]
      exact ⟨rfl, rfl⟩
end Go.Proofs.Qxb6601773aMods.Num
