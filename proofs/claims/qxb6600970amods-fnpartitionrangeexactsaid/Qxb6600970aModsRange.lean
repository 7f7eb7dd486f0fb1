import Derived.Test.Qxb6600970aModsRows
import Derived.WalkKit
import Derived.ProofKit
import Derived.WalkSpells
import Derived.WalkLawsBesides
namespace Go.Proofs.Qxb6600970aMods.Range
open Go.RowKit

theorem info32 : (Trym.prog.info? 32).map (fun i => (i.zero, i.size, i.bytes)) = some (some (.agg #[.string ByteArray.empty, .int .i64 0]), 2, 24) := by kernel_rfl

/-- The cells of the first n partitions. -/
def elems (fam : ByteArray) (lo : Int) : Nat → List Value
  | 0 => []
  | n + 1 => elems fam lo n ++ [.string fam, .int .i64 (lo + n)]

theorem elems_len (fam : ByteArray) (lo : Int) (n : Nat) : (elems fam lo n).length = n * 2 := by
  induction n with
  | zero => rfl
  | succ n ih => simp [elems, ih]; omega

theorem elems_at (fam : ByteArray) (lo : Int) (n i : Nat) (h : i < n) : (elems fam lo n)[2 * i]? = some (.string fam) ∧ (elems fam lo n)[2 * i + 1]? = some (.int .i64 (lo + i)) := by
  induction n with
  | zero => omega
  | succ n ih =>
    have hl := elems_len fam lo n
    simp only [elems]
    by_cases hi : i < n
    · rw [List.getElem?_append_left (by omega), List.getElem?_append_left (by omega)]
      exact ih hi
    · obtain rfl : i = n := by omega
      rw [List.getElem?_append_right (by omega), List.getElem?_append_right (by omega), hl]
      have e1 : 2 * i - i * 2 = 0 := by omega
      have e2 : 2 * i + 1 - i * 2 = 1 := by omega
      rw [e1, e2]
      exact ⟨rfl, rfl⟩

set_option maxHeartbeats 400000 in
theorem range_any (fam : ByteArray) (lo hi : Int) (w : World) (l0 : -9223372036854775808 ≤ lo) (l1 : lo ≤ 9223372036854775807) (h0 : -9223372036854775808 ≤ hi) (h1 : hi ≤ 9223372036854775807) (hn : hi - lo ≤ 65536) :
    Calls Trym.prog 16 #[.string fam, .int .i64 lo, .int .i64 hi] w fun e w' => ∃ v, e = .returned v ∧ w'.ownsRow w.heap.size 32 2 v (hi - lo).toNat (elems fam lo (hi - lo).toNat) ∧ Below w.heap.size w w' ∧ (v = .slice none 0 0 ↔ hi ≤ lo) := by
  obtain ⟨i0, hi0, hz0, hz1, hz2⟩ := info_parts info32
  go_enter Trym.func16, Trym.ntmps16
  go_wp2
  go_loopw [7, 8] (fun v i wr => ∃ k : Nat, (k = 0 ∨ lo + k ≤ hi) ∧ i = .int .i64 (lo + k) ∧ wr.ownsRow w.heap.size 32 2 v k (elems fam lo k) ∧ Below w.heap.size w wr ∧ (v = .slice none 0 0 ↔ k = 0))
    (fun _ i _ => (hi - intOf i).toNat)
  case atStart => exact ⟨0, Or.inl rfl, by simp, World.ownsRow_nil _ _ _ _, Below.refl _ _, by simp⟩
  case round =>
    obtain ⟨k, hk, rfl, hown, hbel, hnil⟩ := hrel
    by_cases hlt : lo + k < hi
    · have hsz := hbel.size
      go_wp2_with (at_builtin; refine wpList_append_own _ rfl (.tmp 15) (.tmp 19) 28 rfl w.heap.size 32 i0 (.agg #[.string ByteArray.empty, .int .i64 0]) 2 24 Trym.underlying28 hi0 hz0 hz1 hz2 rfl (by decide) _ _ _ rfl (hown.alloc _) ⟨wr.heap.size, 0, none⟩ 1 1 [.string fam, .int .i64 (lo + k)] rfl rfl ?c1 ?c2 ?c3 ?c4 ?c5 ?_)
      case c1 =>
        intro j u hj
        match j, hj with
        | 0, hj => simp at hj; subst hj; simp [Addr.add]
        | 1, hj => simp at hj; subst hj; simp [Addr.add]
      case c2 => intro u hu; simp at hu; rcases hu with rfl | rfl <;> rfl
      case c3 => unfold maxLen; omega
      case c4 => omega
      case c5 => simp; omega
      intro v' w1 hown' hgrow hv'
      have hb' : Below w.heap.size w w1 := (hbel.alloc hsz _).grown hgrow (by simp; omega) (fun j hj => (hown.lt j hj).1)
      have hn' : v' = .slice none 0 0 ↔ k + 1 = 0 := by simpa using hv'
      clear hv' hgrow hown hbel hnil
      go_wp2
      go_roundw
      case rel => exact ⟨k + 1, Or.inr (by omega), by go_num, hown', hb', hn'⟩
      case measure => simp [intOf]; omega
    · have e : (hi - lo).toNat = k := by omega
      have hn' := hnil.trans (show k = 0 ↔ hi ≤ lo by omega)
      clear hnil
      go_wp2
      go_ret
      exact ⟨_, rfl, hown, hbel, hn'⟩
end Go.Proofs.Qxb6600970aMods.Range
