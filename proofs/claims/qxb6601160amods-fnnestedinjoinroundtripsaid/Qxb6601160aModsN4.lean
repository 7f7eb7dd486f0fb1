import Derived.Test.Qxb6601160aModsNest
import Derived.Test.Qxb6601160aModsN3
namespace Go.Proofs.Qxb6601160aMods.Nest
open Go.RowKit
set_option linter.unusedVariables false

theorem own_form {w : World} {base : Nat} {v : Value} {n : Nat} {xs : List Value} (h : w.ownsRow base 9 1 v (n + 1) xs) :
    ∃ g cap, v = .slice (some ⟨g, 0, none⟩) (n + 1) cap ∧ base ≤ g := by
  rcases h.2 with ⟨_, h1⟩ | ⟨g, cap, cur, rfl, hb, _⟩
  · omega
  · exact ⟨g, cap, rfl, hb⟩

theorem one_cell (w : World) (s : ByteArray) : ∀ j u, [Value.string s][j]? = some u → (w.alloc (.cells #[.string s] 9)).cell? ((⟨w.heap.size, 0, none⟩ : Addr).add j) = some u := by
  intro j u hj
  match j, hj with
  | 0, hj => simp at hj; subst hj; simp [Addr.add]

theorem one_one (s : ByteArray) : ∀ u ∈ [Value.string s], u.oneCell' = true := by
  intro u hu; simp at hu; subst hu; rfl

set_option maxHeartbeats 400000 in
theorem top_dot (n x : ByteArray) (a : Option Addr) (len cap : Nat) (ss : List ByteArray) (w : World) (hn : n.size ≤ 1048576) (hx : x.size ≤ 1048576) (hl : len ≤ 9223372036854775807) (hs : Strs w a len ss) (hnil : a = none → len = 0 ∧ cap = 0) :
    Calls Trym.prog 5 #[.string n, .string x, .bool false, .slice a len cap] w fun e w' => e = .returned (.bool true) ∧ Below w.heap.size w w' := by
  obtain ⟨i0, hi0, hz0, hz1, hz2⟩ := info_parts info9
  have Hz := bytes12 n x false a len cap ss w (by omega) (by omega) hl hs
  have Hb := bytes13 a len cap ss w hl hs
  have Hc := fun h => clone14 a len cap ss w h hs hnil
  clear hs hnil
  go_enter Trym.func5, Trym.ntmps5
  go_wp2_with (first
    | (go_at_call 12; refine Hz.mono ?_; rintro e w' ⟨⟨b, rfl⟩, rfl⟩)
    | (go_at_call 13; refine Hb.mono ?_; rintro e w' ⟨t, rfl, t0, t1, t2, rfl⟩)
    | (go_at_call 14; refine (Hc (t2 (by omega))).mono ?_; rintro e w1 ⟨a1, cap1, rfl, hs1, hbel1⟩; have hl1 := t2 (by omega))
    | (at_make; refine wpList_make_own _ rfl _ _ 28 rfl w1.heap.size 9 i0 (.string ByteArray.empty) 1 Trym.underlying28 hi0 hz0 hz1 .i64 .i64 _ (len + 1) rfl rfl (by omega) (by rw [hz2]; omega) (by unfold maxLen; omega) (Nat.le_refl _) ?_; intro w2 hown hgrow)
    | (at_builtin; refine wpList_append_own _ rfl (.tmp 51) (.tmp 53) 28 rfl w1.heap.size 9 i0 (.string ByteArray.empty) 1 16 Trym.underlying28 hi0 hz0 hz1 hz2 rfl (by decide) _ _ _ rfl (hown.alloc _) ⟨w2.heap.size, 0, none⟩ 1 1 [.string n] rfl rfl (one_cell _ _) (one_one _) (by unfold maxLen; omega) (by omega) (by have := hgrow.size; simp; omega) ?_; intro v3 w3 hown3 hgrow3 hv3))
  · go_ret
    exact ⟨rfl, Below.refl _ _⟩
  · go_ret
    exact ⟨rfl, Below.refl _ _⟩
  have hbel3 : Below w1.heap.size w1 w3 := ((((Below.refl _ _).grown hgrow (Nat.le_refl _) (by simp)).alloc hgrow.size _)).grown hgrow3 (by have := hgrow.size; simp; omega) (fun j hj => (hown.lt j hj).1)
  go_loopw [11, 12] (fun v i wr => ∃ (k : Nat) (xs : List Value), k ≤ len ∧ i = .int .i64 k ∧ wr.ownsRow w1.heap.size 9 1 v (k + 1) (.string n :: xs) ∧ Below w1.heap.size w1 wr)
    (fun _ i _ => len - (intOf i).toNat)
  case atStart => exact ⟨0, [], Nat.zero_le _, rfl, hown3, hbel3⟩
  case round =>
    clear hown hgrow hown3 hgrow3 hv3 hbel3
    obtain ⟨k, xs, hk, rfl, hown, hbel⟩ := hrel
    obtain ⟨g, c, rfl, hg⟩ := own_form hown
    have hsz := hbel.size
    by_cases hlt : k < len
    · obtain ⟨b, off, s, rfl, hc, hss, _⟩ := hs1.2 k hlt
      have hb := World.block_lt_of_cell? w1 _ hc
      have hc' := (hbel.cell (p := ⟨b, off + k, none⟩) hb).trans hc
      clear hc hs1
      go_wp2_with (at_builtin; refine wpList_append_own _ rfl (.tmp 61) (.tmp 66) 28 rfl w1.heap.size 9 i0 (.string ByteArray.empty) 1 16 Trym.underlying28 hi0 hz0 hz1 hz2 rfl (by decide) _ _ _ rfl (hown.alloc _) ⟨wr.heap.size, 0, none⟩ 1 1 [.string s] rfl rfl (one_cell _ _) (one_one _) (by unfold maxLen; omega) (by omega) (by simp; omega) ?_; intro v' w4 hown4 hgrow4 hv4)
      have hb4 : Below w1.heap.size w1 w4 := (hbel.alloc hsz _).grown hgrow4 (by simp; omega) (fun j hj => (hown.lt j hj).1)
      clear hv4 hgrow4 hown hbel
      go_roundw
      case rel => exact ⟨k + 1, xs ++ [Value.string s], by omega, by go_num, hown4, hb4⟩
      case measure => simp [intOf]; omega
    · obtain rfl : k = len := by omega
      have h0 : wr.cell? ⟨g, 0, none⟩ = some (.string n) := hown.cellAt 0 (by omega)
      have Hq := zz_dot n x g (k + 1) c wr hn hx (by omega) (by omega) h0
      rw [← ByteArray.append_assoc] at Hq
      go_wp2_with (go_at_call 15; refine Hq.mono ?_; rintro e w4 ⟨rfl, q, rfl⟩)
      go_ret
      exact ⟨rfl, below_drewN (hbel1.trans (hbel.mono hbel1.size)) q⟩
set_option maxHeartbeats 400000 in
theorem top_list (n x : ByteArray) (a : Option Addr) (len cap : Nat) (ss : List ByteArray) (w : World) (hn : n.size ≤ 1048576) (hx : x.size ≤ 1048576) (hl : len ≤ 9223372036854775807) (hs : Strs w a len ss) (hnil : a = none → len = 0 ∧ cap = 0) :
    Calls Trym.prog 5 #[.string n, .string x, .bool true, .slice a len cap] w fun e w' => e = .returned (.bool true) ∧ Below w.heap.size w w' := by
  obtain ⟨i0, hi0, hz0, hz1, hz2⟩ := info_parts info9
  have Hz := bytes12 n x true a len cap ss w (by omega) (by omega) hl hs
  have Hb := bytes13 a len cap ss w hl hs
  have Hc := fun h => clone14 a len cap ss w h hs hnil
  clear hs hnil
  go_enter Trym.func5, Trym.ntmps5
  go_wp2_with (first
    | (go_at_call 12; refine Hz.mono ?_; rintro e w' ⟨⟨b, rfl⟩, rfl⟩)
    | (go_at_call 13; refine Hb.mono ?_; rintro e w' ⟨t, rfl, t0, t1, t2, rfl⟩)
    | (go_at_call 14; refine (Hc (t2 (by omega))).mono ?_; rintro e w1 ⟨a1, cap1, rfl, hs1, hbel1⟩; have hl1 := t2 (by omega))
    | (at_make; refine wpList_make_own _ rfl _ _ 28 rfl w1.heap.size 9 i0 (.string ByteArray.empty) 1 Trym.underlying28 hi0 hz0 hz1 .i64 .i64 _ (len + 1) rfl rfl (by omega) (by rw [hz2]; omega) (by unfold maxLen; omega) (Nat.le_refl _) ?_; intro w2 hown hgrow)
    | (at_builtin; refine wpList_append_own _ rfl (.tmp 51) (.tmp 53) 28 rfl w1.heap.size 9 i0 (.string ByteArray.empty) 1 16 Trym.underlying28 hi0 hz0 hz1 hz2 rfl (by decide) _ _ _ rfl (hown.alloc _) ⟨w2.heap.size, 0, none⟩ 1 1 [.string n] rfl rfl (one_cell _ _) (one_one _) (by unfold maxLen; omega) (by omega) (by have := hgrow.size; simp; omega) ?_; intro v3 w3 hown3 hgrow3 hv3))
  · go_ret
    exact ⟨rfl, Below.refl _ _⟩
  · go_ret
    exact ⟨rfl, Below.refl _ _⟩
  have hbel3 : Below w1.heap.size w1 w3 := ((((Below.refl _ _).grown hgrow (Nat.le_refl _) (by simp)).alloc hgrow.size _)).grown hgrow3 (by have := hgrow.size; simp; omega) (fun j hj => (hown.lt j hj).1)
  go_loopw [11, 12] (fun v i wr => ∃ (k : Nat) (xs : List Value), k ≤ len ∧ i = .int .i64 k ∧ wr.ownsRow w1.heap.size 9 1 v (k + 1) (.string n :: xs) ∧ Below w1.heap.size w1 wr)
    (fun _ i _ => len - (intOf i).toNat)
  case atStart => exact ⟨0, [], Nat.zero_le _, rfl, hown3, hbel3⟩
  case round =>
    clear hown hgrow hown3 hgrow3 hv3 hbel3
    obtain ⟨k, xs, hk, rfl, hown, hbel⟩ := hrel
    obtain ⟨g, c, rfl, hg⟩ := own_form hown
    have hsz := hbel.size
    by_cases hlt : k < len
    · obtain ⟨b, off, s, rfl, hc, hss, _⟩ := hs1.2 k hlt
      have hb := World.block_lt_of_cell? w1 _ hc
      have hc' := (hbel.cell (p := ⟨b, off + k, none⟩) hb).trans hc
      clear hc hs1
      go_wp2_with (at_builtin; refine wpList_append_own _ rfl (.tmp 61) (.tmp 66) 28 rfl w1.heap.size 9 i0 (.string ByteArray.empty) 1 16 Trym.underlying28 hi0 hz0 hz1 hz2 rfl (by decide) _ _ _ rfl (hown.alloc _) ⟨wr.heap.size, 0, none⟩ 1 1 [.string s] rfl rfl (one_cell _ _) (one_one _) (by unfold maxLen; omega) (by omega) (by simp; omega) ?_; intro v' w4 hown4 hgrow4 hv4)
      have hb4 : Below w1.heap.size w1 w4 := (hbel.alloc hsz _).grown hgrow4 (by simp; omega) (fun j hj => (hown.lt j hj).1)
      clear hv4 hgrow4 hown hbel
      go_roundw
      case rel => exact ⟨k + 1, xs ++ [Value.string s], by omega, by go_num, hown4, hb4⟩
      case measure => simp [intOf]; omega
    · obtain rfl : k = len := by omega
      have h0 : wr.cell? ⟨g, 0, none⟩ = some (.string n) := hown.cellAt 0 (by omega)
      have Hq := zz_list n x g (k + 1) c wr hn hx (by omega) (by omega) h0
      rw [← ByteArray.append_assoc] at Hq
      go_wp2_with (go_at_call 15; refine Hq.mono ?_; rintro e w4 ⟨rfl, q, rfl⟩)
      go_ret
      exact ⟨rfl, below_drewN (hbel1.trans (hbel.mono hbel1.size)) q⟩

set_option maxHeartbeats 400000 in
theorem top_big (n x : ByteArray) (l : Bool) (a : Option Addr) (len cap : Nat) (ss : List ByteArray) (w : World) (hn : n.size ≤ 9223372036854775807) (hx : x.size ≤ 9223372036854775807) (h : 1048576 < n.size ∨ 1048576 < x.size) (hl : len ≤ 9223372036854775807) (hs : Strs w a len ss) :
    Calls Trym.prog 5 #[.string n, .string x, .bool l, .slice a len cap] w fun e w' => e = .returned (.bool true) ∧ Below w.heap.size w w' := by
  have Hz := bytes12 n x l a len cap ss w hn hx hl hs
  clear hs
  by_cases h1 : 1048576 < n.size
  · clear h
    go_enter Trym.func5, Trym.ntmps5
    go_wp2_with (go_at_call 12; refine Hz.mono ?_; rintro e w' ⟨⟨b, rfl⟩, rfl⟩)
    all_goals (go_ret; exact ⟨rfl, Below.refl _ _⟩)
  · have h2 : 1048576 < x.size := by omega
    clear h
    go_enter Trym.func5, Trym.ntmps5
    go_wp2_with (go_at_call 12; refine Hz.mono ?_; rintro e w' ⟨⟨b, rfl⟩, rfl⟩)
    all_goals (go_ret; exact ⟨rfl, Below.refl _ _⟩)

theorem top5 (n x : ByteArray) (l : Bool) (a : Option Addr) (len cap : Nat) (ss : List ByteArray) (w : World) (hn : n.size ≤ maxLen) (hx : x.size ≤ maxLen) (hl : len ≤ maxLen) (hs : Strs w a len ss) (hnil : a = none → len = 0 ∧ cap = 0) :
    Calls Trym.prog 5 #[.string n, .string x, .bool l, .slice a len cap] w fun e w' => e = .returned (.bool true) ∧ Below w.heap.size w w' := by
  unfold maxLen at hn hx hl
  by_cases h : 1048576 < n.size ∨ 1048576 < x.size
  · exact top_big n x l a len cap ss w (by omega) (by omega) h (by omega) hs
  · cases l with
    | false => exact top_dot n x a len cap ss w (by omega) (by omega) (by omega) hs hnil
    | true => exact top_list n x a len cap ss w (by omega) (by omega) (by omega) hs hnil
end Go.Proofs.Qxb6601160aMods.Nest
