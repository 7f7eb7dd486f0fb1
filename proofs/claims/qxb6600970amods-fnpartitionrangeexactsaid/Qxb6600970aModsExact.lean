import Derived.Test.Qxb6600970aModsRows
import Derived.Test.Qxb6600970aModsRange
import Derived.WalkKit
import Derived.ProofKit
import Derived.WalkSpells
import Derived.WalkLawsBesides
namespace Go.Proofs.Qxb6600970aMods.Range
open Go.RowKit

set_option maxHeartbeats 400000 in
theorem zzb (fam : ByteArray) (lo hi : Int) (w : World) (hf : fam.size ≤ maxLen) :
    Calls Trym.prog 9 #[.string fam, .int .i64 lo, .int .i64 hi] w fun e w' => e = .returned (.bool (decide (fam.size ≤ 1048576))) ∧ w' = w := by
  unfold maxLen at hf
  by_cases h : fam.size ≤ 1048576
  · rw [decide_eq_true h]
    go_enter Trym.func9, Trym.ntmps9
    go_wp2
    go_ret
    exact ⟨rfl, rfl⟩
  · rw [decide_eq_false h]
    go_enter Trym.func9, Trym.ntmps9
    go_wp2
    go_ret
    exact ⟨rfl, rfl⟩

set_option maxHeartbeats 400000 in
theorem zzr (fam : ByteArray) (lo hi : Int) (w : World) (l0 : -9223372036854775808 ≤ lo) (l1 : lo ≤ 9223372036854775807) (h0 : -9223372036854775808 ≤ hi) (h1 : hi ≤ 9223372036854775807) (hn : hi - lo ≤ 65536) :
    Calls Trym.prog 10 #[.string fam, .int .i64 lo, .int .i64 hi] w fun e w' => ∃ v, e = .returned v ∧ w'.ownsRow w.heap.size 32 2 v (hi - lo).toNat (elems fam lo (hi - lo).toNat) ∧ Below w.heap.size w w' ∧ (v = .slice none 0 0 ↔ hi ≤ lo) := by
  go_enter Trym.func10, Trym.ntmps10
  go_wp2_with (go_at_call 16; refine (range_any _ _ _ _ l0 l1 h0 h1 hn).mono ?_; rintro e w' ⟨v, rfl, hown, hbel, hnil⟩)
  go_ret
  exact ⟨_, rfl, hown, hbel, hnil⟩

set_option maxHeartbeats 400000 in
theorem zzf (fam : ByteArray) (x : Int) (w : World) :
    Calls Trym.prog 11 #[.agg #[.string fam, .int .i64 x]] w fun e w' => e = .returned (.string fam) ∧ w' = w.alloc (.cells #[.string fam, .int .i64 x] 32) := by
  go_enter Trym.func11, Trym.ntmps11
  go_wp2
  go_ret
  exact ⟨rfl, rfl⟩

set_option maxHeartbeats 400000 in
theorem zzi (fam : ByteArray) (x : Int) (w : World) :
    Calls Trym.prog 12 #[.agg #[.string fam, .int .i64 x]] w fun e w' => e = .returned (.int .i64 x) ∧ w' = w.alloc (.cells #[.string fam, .int .i64 x] 32) := by
  go_enter Trym.func12, Trym.ntmps12
  go_wp2
  go_ret
  exact ⟨rfl, rfl⟩

theorem wrap_u64 (x : Int) : IntKind.u64.wrap x = x % 18446744073709551616 := by
  simp [IntKind.wrap, IntKind.signed, IntKind.bits]

theorem own_form {w : World} {base : Nat} {v : Value} {n : Nat} {xs : List Value} (h : w.ownsRow base 32 2 v n xs) (hv : v ≠ .slice none 0 0) :
    ∃ g cap, v = .slice (some ⟨g, 0, none⟩) n cap ∧ base ≤ g := by
  rcases h.2 with ⟨h1, _⟩ | ⟨g, cap, cur, rfl, hb, _⟩
  · exact absurd h1 hv
  · exact ⟨g, cap, rfl, hb⟩

theorem diff_wrap (lo hi : Int) (l0 : -9223372036854775808 ≤ lo) (l1 : lo ≤ 9223372036854775807) (h0 : -9223372036854775808 ≤ hi) (h1 : hi ≤ 9223372036854775807) (hlt : lo < hi) :
    IntKind.u64.wrap (IntKind.u64.wrap hi - IntKind.u64.wrap lo) = hi - lo := by
  simp only [wrap_u64]; omega

set_option maxHeartbeats 400000 in
theorem top_A (fam : ByteArray) (lo hi : Int) (w : World) (hm : fam.size ≤ maxLen) (hf : ¬ fam.size ≤ 1048576) :
    Calls Trym.prog 6 #[.string fam, .int .i64 lo, .int .i64 hi] w fun e w' => e = .returned (.bool true) ∧ Below w.heap.size w w' := by
  have hz : ∀ w, Calls Trym.prog 9 #[.string fam, .int .i64 lo, .int .i64 hi] w fun e w' => e = .returned (.bool false) ∧ w' = w := fun w => by
    have := zzb fam lo hi w hm
    rwa [decide_eq_false hf] at this
  go_enter Trym.func6, Trym.ntmps6
  go_wp2_with (go_at_call 9; refine (hz _).mono ?_; rintro e w' ⟨rfl, rfl⟩)
  go_ret
  exact ⟨rfl, Below.refl _ _⟩

set_option maxHeartbeats 400000 in
theorem top_B (fam : ByteArray) (lo hi : Int) (w : World) (hf : fam.size ≤ 1048576) (l0 : -9223372036854775808 ≤ lo) (l1 : lo ≤ 9223372036854775807) (h0 : -9223372036854775808 ≤ hi) (h1 : hi ≤ 9223372036854775807) (hlt : lo < hi) (hn : ¬ hi - lo ≤ 65536) :
    Calls Trym.prog 6 #[.string fam, .int .i64 lo, .int .i64 hi] w fun e w' => e = .returned (.bool true) ∧ Below w.heap.size w w' := by
  have hz : ∀ w, Calls Trym.prog 9 #[.string fam, .int .i64 lo, .int .i64 hi] w fun e w' => e = .returned (.bool true) ∧ w' = w := fun w => by
    have := zzb fam lo hi w (by unfold maxLen; omega)
    rwa [decide_eq_true hf] at this
  have hd := diff_wrap lo hi l0 l1 h0 h1 hlt
  go_enter Trym.func6, Trym.ntmps6
  go_wp2_with (go_at_call 9; refine (hz _).mono ?_; rintro e w' ⟨rfl, rfl⟩)
  go_ret
  exact ⟨rfl, Below.refl _ _⟩

set_option maxHeartbeats 400000 in
theorem top_C (fam : ByteArray) (lo hi : Int) (w : World) (hf : fam.size ≤ 1048576) (l0 : -9223372036854775808 ≤ lo) (l1 : lo ≤ 9223372036854775807) (h0 : -9223372036854775808 ≤ hi) (h1 : hi ≤ 9223372036854775807) (hle : hi ≤ lo) :
    Calls Trym.prog 6 #[.string fam, .int .i64 lo, .int .i64 hi] w fun e w' => e = .returned (.bool true) ∧ Below w.heap.size w w' := by
  have hz : ∀ w, Calls Trym.prog 9 #[.string fam, .int .i64 lo, .int .i64 hi] w fun e w' => e = .returned (.bool true) ∧ w' = w := fun w => by
    have := zzb fam lo hi w (by unfold maxLen; omega)
    rwa [decide_eq_true hf] at this
  have hnl : ∀ w, (binOp .eql 28 (.slice none 0 0) (.slice none 0 0)).run Trym.prog w = .ok (.bool true) w := fun w => Lib.run_eql_slice_nil w 28 32 none 0 0 0 0 Trym.underlying28
  go_enter Trym.func6, Trym.ntmps6
  go_wp2_with (first
    | (go_at_call 9; refine (hz _).mono ?_; rintro e w' ⟨rfl, rfl⟩)
    | (go_at_call 10; refine (zzr _ _ _ _ l0 l1 h0 h1 (by omega)).mono ?_; rintro e w' ⟨v, rfl, hown, hbel, hnil⟩; obtain rfl := hnil.2 hle; clear hnil hown)
    | fail)
  go_ret
  exact ⟨rfl, hbel⟩

theorem zzr_N (fam : ByteArray) (lo : Int) (N : Nat) (w : World) (l0 : -9223372036854775808 ≤ lo) (l1 : lo ≤ 9223372036854775807) (h1 : lo + N ≤ 9223372036854775807) (hN0 : 0 < N) (hn : N ≤ 65536) :
    Calls Trym.prog 10 #[.string fam, .int .i64 lo, .int .i64 (lo + N)] w fun e w' => ∃ g cap, e = .returned (.slice (some ⟨g, 0, none⟩) N cap) ∧ w'.ownsRow w.heap.size 32 2 (.slice (some ⟨g, 0, none⟩) N cap) N (elems fam lo N) ∧ Below w.heap.size w w' := by
  refine (zzr fam lo (lo + N) w l0 l1 (by omega) h1 (by omega)).mono ?_
  rintro e w' ⟨v, rfl, hown, hbel, hnil⟩
  have hN : (lo + N - lo).toNat = N := by omega
  rw [hN] at hown
  obtain ⟨g, cap, rfl, _⟩ := own_form hown (fun h => by have := hnil.1 h; omega)
  exact ⟨g, cap, rfl, hown, hbel⟩

set_option maxHeartbeats 400000 in
theorem top_D (fam : ByteArray) (lo : Int) (N : Nat) (w : World) (hf : fam.size ≤ 1048576) (l0 : -9223372036854775808 ≤ lo) (l1 : lo ≤ 9223372036854775807) (h1 : lo + N ≤ 9223372036854775807) (hN0 : 0 < N) (hn : N ≤ 65536) :
    Calls Trym.prog 6 #[.string fam, .int .i64 lo, .int .i64 (lo + N)] w fun e w' => e = .returned (.bool true) ∧ Below w.heap.size w w' := by
  have hz : ∀ w, Calls Trym.prog 9 #[.string fam, .int .i64 lo, .int .i64 (lo + N)] w fun e w' => e = .returned (.bool true) ∧ w' = w := fun w => by
    have := zzb fam lo (lo + N) w (by unfold maxLen; omega)
    rwa [decide_eq_true hf] at this
  have hd : IntKind.u64.wrap (IntKind.u64.wrap (lo + N) - IntKind.u64.wrap lo) = N := by
    rw [diff_wrap lo (lo + N) l0 l1 (by omega) h1 (by omega)]; omega
  go_enter Trym.func6, Trym.ntmps6
  go_wp2_with (first
    | (go_at_call 9; refine (hz _).mono ?_; rintro e w1 ⟨rfl, rfl⟩)
    | (go_at_call 10; refine (zzr_N _ _ _ _ l0 l1 h1 hN0 hn).mono ?_; rintro e w' ⟨g, cap, rfl, hown, hbel⟩))
  go_loopw [9] (fun i wr => ∃ k : Nat, k ≤ N ∧ i = .int .i64 k ∧ wr.ownsRow w1.heap.size 32 2 (.slice (some ⟨g, 0, none⟩) N cap) N (elems fam lo N) ∧ Below w1.heap.size w1 wr)
    (fun i _ => N - (intOf i).toNat)
  case atStart => exact ⟨0, Nat.zero_le _, rfl, hown, hbel⟩
  case round =>
    clear hown hbel
    obtain ⟨k, hk, rfl, hown, hbel⟩ := hrel
    by_cases hlt : k < N
    · have hsz := hbel.size
      obtain ⟨x1, x2⟩ := elems_at fam lo N k hlt
      rw [Nat.mul_comm] at x1 x2
      have c1 := (hown.cellAt (k * 2) (by omega)).trans x1
      have c2 := (hown.cellAt (k * 2 + 1) (by omega)).trans x2
      clear x1 x2
      have hg : g < wr.heap.size := (hown.lt g rfl).2
      go_wp2_with (first
        | (go_at_call 11; refine (zzf _ _ _).mono ?_; rintro e w2 ⟨rfl, rfl⟩)
        | (go_at_call 12; refine (zzi _ _ _).mono ?_; rintro e w2 ⟨rfl, rfl⟩))
      go_roundw
      case rel => exact ⟨k + 1, by omega, by go_num, (hown.alloc _).alloc _, (hbel.alloc hsz _).alloc (by simp; omega) _⟩
      case measure => simp [intOf]; omega
    · go_wp2
      go_ret
      exact ⟨rfl, hbel⟩
end Go.Proofs.Qxb6600970aMods.Range
