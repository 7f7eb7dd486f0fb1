import Derived.Test.Qxb6601160aModsN2
namespace Go.Proofs.Qxb6601160aMods.Nest
open Go.RowKit
set_option linter.unusedVariables false

theorem Strs.below {B : Nat} {w w' : World} {a : Option Addr} {len : Nat} {ss : List ByteArray} (h : Strs w a len ss) (hb : Below B w w') (hB : w.heap.size ≤ B) : Strs w' a len ss := by
  refine ⟨h.1, fun k hk => ?_⟩
  obtain ⟨b, off, s, rfl, hc, h2, h3⟩ := h.2 k hk
  have hlt := World.block_lt_of_cell? w _ hc
  exact ⟨b, off, s, rfl, (hb.cell (p := ⟨b, off + k, none⟩) (Nat.lt_of_lt_of_le hlt hB)).trans hc, h2, h3⟩

theorem info9 : (Trym.prog.info? 9).map (fun i => (i.zero, i.size, i.bytes)) = some (some (.string ByteArray.empty), 1, 16) := by kernel_rfl

set_option maxHeartbeats 400000 in
theorem clone_nil (w : World) :
    Calls Trym.prog 14 #[.slice none 0 0] w fun e w' => e = .returned (.slice none 0 0) ∧ w' = w := by
  have hnl : ∀ w, (binOp .eql 28 (.slice none 0 0) (.slice none 0 0)).run Trym.prog w = .ok (.bool true) w := fun w => Lib.run_eql_slice_nil w 28 9 none 0 0 0 0 Trym.underlying28
  go_enter Trym.func14, Trym.ntmps14
  go_wp2
  go_ret
  exact ⟨rfl, rfl⟩

set_option maxHeartbeats 400000 in
theorem clone_some (ad : Addr) (len cap : Nat) (ss : List ByteArray) (w : World) (hl : len ≤ 65536) (hs : Strs w (some ad) len ss) :
    Calls Trym.prog 14 #[.slice (some ad) len cap] w fun e w' => ∃ a' cap', e = .returned (.slice a' len cap') ∧ Strs w' a' len ss ∧ Below w.heap.size w w' := by
  obtain ⟨i0, hi0, hz0, hz1, hz2⟩ := info_parts info9
  have hnl : ∀ w, (binOp .eql 28 (.slice (some ad) len cap) (.slice none 0 0)).run Trym.prog w = .ok (.bool false) w := fun w => Lib.run_eql_slice_nil w 28 9 (some ad) len cap 0 0 Trym.underlying28
  go_enter Trym.func14, Trym.ntmps14
  go_wp2_with (at_make; refine wpList_make_full _ rfl (.tmp 8) (.tmp 8) 28 rfl w.heap.size 9 i0 (.string ByteArray.empty) 1 Trym.underlying28 hi0 hz0 hz1 .i64 .i64 len len len rfl rfl rfl rfl (by rw [hz2]; omega) (by unfold maxLen; omega) (Nat.le_refl _) ?_; intro w1 hown hgrow)
  have hbel : Below w.heap.size w w1 := (Below.refl _ _).grown hgrow (Nat.le_refl _) (by simp)
  go_loopw [4] (fun i wr => ∃ (k : Nat) (xs : List Value), k ≤ len ∧ i = .int .i64 k ∧ wr.ownsRow w.heap.size 9 1 (.slice (some ⟨w.heap.size, 0, none⟩) len len) len xs ∧ Below w.heap.size w wr ∧ ∀ j, j < k → xs[j]? = (ss[j]?).map Value.string)
    (fun i _ => len - (intOf i).toNat)
  case atStart => exact ⟨0, _, Nat.zero_le _, rfl, hown, hbel, fun j hj => by omega⟩
  case round =>
    clear hown hbel hgrow
    obtain ⟨k, xs, hk, rfl, hown, hbel, hxs⟩ := hrel
    by_cases hlt : k < len
    · obtain ⟨b, off, s, had, hc, hsz, hsk⟩ := hs.2 k hlt
      simp only [Option.some.injEq] at had
      subst had
      have hb := World.block_lt_of_cell? w _ hc
      have hc' := (hbel.cell (p := ⟨b, off + k, none⟩) hb).trans hc
      have hlen := hown.1
      obtain ⟨u, hu⟩ : ∃ u, xs[k]? = some u := ⟨xs[k]'(by omega), List.getElem?_eq_getElem _⟩
      have hd := (hown.cellAt k (by omega)).trans hu
      have hf := hown.frozenAt k
      obtain ⟨ho', hg'⟩ := hown.stored k (.string s)
      have hb' := hbel.grown hg' hbel.size (fun j hj => by cases hj; exact Nat.le_refl _)
      have hx' : ∀ j, j < k + 1 → (xs.set k (.string s))[j]? = (ss[j]?).map Value.string := by
        intro j hj
        by_cases e : j = k
        · subst e; rw [List.getElem?_set_self (by omega), hsk]; rfl
        · rw [List.getElem?_set_ne (by omega)]; exact hxs j (by omega)
      clear hg' hu hs hc hbel hown hxs hsk hlen
      go_wp2
      go_roundw
      case rel => exact ⟨k + 1, _, by omega, by go_num, ho', hb', hx'⟩
      case measure => simp [intOf]; omega
    · obtain rfl : k = len := by omega
      have hres : Strs wr (some ⟨w.heap.size, 0, none⟩) k ss := by
        refine ⟨hs.1, fun j hj => ?_⟩
        obtain ⟨b, off, s, _, _, h2, h3⟩ := hs.2 j hj
        refine ⟨_, 0, s, rfl, ?_, h2, h3⟩
        rw [Nat.zero_add, hown.cellAt j (by omega), hxs j hj, h3]; rfl
      clear hxs hown hs
      go_wp2
      go_ret
      exact ⟨_, _, rfl, hres, hbel⟩

/-- cloneStrings, whatever came in. -/
theorem clone14 (a : Option Addr) (len cap : Nat) (ss : List ByteArray) (w : World) (hl : len ≤ 65536) (hs : Strs w a len ss) (hn : a = none → len = 0 ∧ cap = 0) :
    Calls Trym.prog 14 #[.slice a len cap] w fun e w' => ∃ a' cap', e = .returned (.slice a' len cap') ∧ Strs w' a' len ss ∧ Below w.heap.size w w' := by
  cases a with
  | none =>
    obtain ⟨rfl, rfl⟩ := hn rfl
    refine (clone_nil w).mono ?_
    rintro e w' ⟨rfl, rfl⟩
    exact ⟨_, _, rfl, hs, Below.refl _ _⟩
  | some ad => exact clone_some ad len cap ss w hl hs
end Go.Proofs.Qxb6601160aMods.Nest
