import Derived.Test.Qxb6601773aModsReader
import Derived.Laws.CopyOwn
import Derived.Lib.Builder
namespace Go.Proofs.Qxb6601773aMods.Num
open Go.RowKit Go.Proofs.Qxb6601773aMods.Dfa
set_option linter.unusedVariables false

theorem info5 : (Trym.prog.info? 5).map (fun i => (i.zero, i.size, i.bytes)) = some (some (.int .u8 0), 1, 1) := by kernel_rfl
theorem size5 : (Trym.prog.info? 5).map (·.size) = some 1 := by kernel_rfl

set_option maxHeartbeats 400000 in
theorem zz5_no (a : Option Addr) (len cap : Nat) (p d : Int) (s : Bool) (w : World) (hl : len ≤ 9223372036854775807) (h : 1048576 < len) :
    Calls Trym.prog 5 #[.slice a len cap, .int .i64 p, .int .i64 d, .bool s] w fun e w' => e = .returned (.bool false) ∧ w' = w := by
  go_enter Trym.func5, Trym.ntmps5
  go_wp2
  go_ret
  exact ⟨rfl, rfl⟩

set_option maxHeartbeats 400000 in
theorem zz5_yes (a : Option Addr) (len cap : Nat) (p d : Int) (s : Bool) (w : World) (h : len ≤ 1048576) :
    Calls Trym.prog 5 #[.slice a len cap, .int .i64 p, .int .i64 d, .bool s] w fun e w' => e = .returned (.bool true) ∧ w' = w := by
  go_enter Trym.func5, Trym.ntmps5
  go_wp2
  go_ret
  exact ⟨rfl, rfl⟩

/-- A row of known cells, out of 'ownsRow' at its full length. -/
theorem row_of {w : World} {base g n : Nat} {xs : List Value} (h : w.ownsRow base 5 1 (.slice (some ⟨g, 0, none⟩) n n) n xs) : w.heap[g]? = some (.cells xs.toArray 5 (0, 0)) := by
  rcases h.2 with ⟨h', _⟩ | ⟨g', cap', cur, h', _, hg, _, _, hcs, htake⟩
  · simp at h'
  · simp only [Value.slice.injEq, Option.some.injEq, Addr.mk.injEq, and_true, true_and] at h'
    obtain ⟨rfl, rfl⟩ := h'
    rw [hg, ← htake, List.take_of_length_le (by simp [hcs])]

theorem splice_all (cur cs : List Value) (h : cur.length = cs.length) : splice cur 0 cs = cs := by
  unfold splice
  simp [h]

theorem bytes_of {w : World} {g : Nat} {cs : List Value} {f : Nat → Int} {len : Nat} (h : w.heap[g]? = some (.cells cs.toArray 5 (0, 0))) (hf : ∀ k, k < len → cs[k]? = some (.int .u8 (f k))) : Bytes w g 0 len f := by
  intro k hk
  rw [Nat.zero_add, cell_of_row w g k cs.toArray 5 (0, 0) h]
  simpa using hf k hk

theorem Bytes.below {w w' : World} {b off len : Nat} {f : Nat → Int} (h : Bytes w b off len f) (hb : Below w.heap.size w w') : Bytes w' b off len f := by
  intro k hk
  have hc := h k hk
  exact (hb.cell (p := ⟨b, off + k, none⟩) (World.block_lt_of_cell? w _ hc)).trans hc

theorem Bytes.drewN {w : World} {b off len : Nat} {f : Nat → Int} (h : Bytes w b off len f) (n : Nat) : Bytes (w.drewN n) b off len f := fun k hk => h k hk

theorem src_below {w w' : World} {ad : Addr} {cs : List Value} (h : ∀ j v, cs[j]? = some v → w.cell? (ad.add j) = some v) (hb : Below w.heap.size w w') : ∀ j v, cs[j]? = some v → w'.cell? (ad.add j) = some v := by
  intro j v hj
  have hc := h j v hj
  exact (hb.cell (World.block_lt_of_cell? w _ hc)).trans hc

theorem row_spliced {w : World} {g : Nat} {cur cs : List Value} (h : w.heap[g]? = some (.cells (splice cur 0 cs).toArray 5 (0, 0))) (hl : cur.length = cs.length) : w.heap[g]? = some (.cells cs.toArray 5 (0, 0)) := by
  rw [splice_all cur cs hl] at h; exact h

set_option maxHeartbeats 400000 in
theorem top_D (ad : Addr) (len cap : Nat) (pos dep : Int) (sp : Bool) (f : Nat → Int) (w : World) (hl : len ≤ 1048576) (h0 : 0 ≤ pos) (h1 : pos ≤ 9223372036854775807)
    (hcell : ∀ k, k < len → w.cell? (ad.add k) = some (.int .u8 (f k)))
    (p2 e2 : Int) (hok : p2 = e2)
    (H6 : ∀ w1, Bytes w1 w.heap.size 0 len f → Calls Trym.prog 6 #[.slice (some ⟨w.heap.size, 0, none⟩) len len, .int .i64 pos, .int .i64 dep, .bool sp] w1 fun e w' => e = .returned (.tuple #[.bool true, .slice (some ⟨w.heap.size, 0, none⟩) len len, .int .i64 p2, .int .i64 dep, .bool sp]) ∧ Below w1.heap.size w1 w')
    (H7 : ∀ w1, Bytes w1 w.heap.size 0 len f → Calls Trym.prog 7 #[.slice (some ⟨w.heap.size, 0, none⟩) len len, .int .i64 pos] w1 fun e w' => e = .returned (.tuple #[.bool true, .int .i64 e2]) ∧ w' = w1) :
    Calls Trym.prog 3 #[.slice (some ad) len cap, .int .i64 pos, .int .i64 dep, .bool sp] w fun e w' => e = .returned (.bool true) ∧ Below w.heap.size w w' := by
  subst hok
  obtain ⟨i0, hi0, hz0, hz1, hz2⟩ := info_parts info5
  have Hz := zz5_yes (some ad) len cap pos dep sp w hl
  have hnl : ∀ w, (binOp .neq 22 (.slice (some ad) len cap) (.slice none 0 0)).run Trym.prog w = .ok (.bool true) w := fun w => run_neq_slice_nil w 22 5 (some ad) len cap Trym.underlying22
  have hpq : ∀ (x : Addr) (w : World), (binOp .neq 26 (.pointer (some x)) (.pointer (some x))).run Trym.prog w = .ok (.bool false) w := fun x w => Lib.run_neq_ptr_same w x Trym.underlying26 hi0
  obtain ⟨cs, hcs⟩ : ∃ cs : List Value, Hid (cs = (List.range len).map fun k => Value.int .u8 (f k)) := ⟨_, rfl⟩
  have hcl : cs.length = len := by rw [hcs.out]; simp
  have hcg : ∀ k, k < len → cs[k]? = some (.int .u8 (f k)) := fun k hk => by rw [hcs.out]; simp [hk]
  have hc1 : ∀ v ∈ cs, v.oneCell' = true := by rw [hcs.out]; intro v hv; simp at hv; obtain ⟨k, _, rfl⟩ := hv; rfl
  have hsrc : ∀ j v, cs[j]? = some v → w.cell? (ad.add j) = some v := by
    intro j v hj
    have hjl : j < len := by have := (List.getElem?_eq_some_iff.1 hj).1; omega
    rw [hcg j hjl] at hj
    rw [hcell j hjl, hj]
  go_enter Trym.func3, Trym.ntmps3
  go_wp2_with (first
    | (go_at_call 5; refine Hz.mono ?_; rintro e w ⟨rfl, rfl⟩)
    | (at_make; refine wpList_make_full _ rfl (.tmp 31) (.tmp 31) 22 rfl w.heap.size 5 i0 (.int .u8 0) 1 Trym.underlying22 hi0 hz0 hz1 .i64 .i64 len len len rfl rfl rfl rfl (by rw [hz2]; omega) (by unfold maxLen; omega) (Nat.le_refl _) ?_; intro w1 hown hgrow; have hbel : Below w.heap.size w w1 := (Below.refl _ _).grown hgrow (Nat.le_refl _) (by simp))
    | (refine wpList_copy_splice rfl (.tmp 33) (.tmp 34) 22 22 rfl 5 Trym.underlying22 size5 _ _ _ _ _ _ rfl rfl w.heap.size 0 _ 5 (row_of hown) cs (by rw [hcl]; exact (Nat.min_self len).symm) (fun _ => ⟨rfl, ad, rfl, src_below hsrc hbel⟩) (by rw [hcl, hown.1]; omega) hc1 w.heap.size w hbel (Nat.le_refl _) ?_; intro w2 HG hB2; have hb2 : Bytes w2 w.heap.size 0 len f := bytes_of (row_spliced HG.out (by rw [hcl, hown.1]; omega)) hcg; clear HG)
    | (go_at_call 6; refine (H6 _ hb2).mono ?_; rintro e w3 ⟨rfl, hB3⟩; have hb3 : Bytes w3 w.heap.size 0 len f := hb2.below hB3))
  have hend : Below w.heap.size w w3 := hB2.trans (hB3.mono hB2.size)
  clear hB2 hB3 hown hgrow hbel hsrc hcell hc1 hcg hb2 H6
  by_cases hlen : 0 < len
  · go_quiet (fail)
    go_wp2_with (go_at_call 7; refine (H7 _ (hb3.drewN _)).mono ?_; rintro e w4 ⟨rfl, rfl⟩)
    go_ret
    exact ⟨rfl, below_drewN hend _⟩
  · obtain rfl : len = 0 := by omega
    go_quiet (fail)
    go_wp2_with (go_at_call 7; refine (H7 _ (hb3.drewN _)).mono ?_; rintro e w4 ⟨rfl, rfl⟩)
    go_ret
    exact ⟨rfl, below_drewN hend _⟩
set_option maxHeartbeats 400000 in
theorem top_N (ad : Addr) (len cap : Nat) (pos dep : Int) (sp : Bool) (f : Nat → Int) (w : World) (hl : len ≤ 1048576) (h0 : 0 ≤ pos) (h1 : pos ≤ 9223372036854775807)
    (hcell : ∀ k, k < len → w.cell? (ad.add k) = some (.int .u8 (f k)))
    (e2 : Int)
    (H6 : ∀ w1, Bytes w1 w.heap.size 0 len f → Calls Trym.prog 6 #[.slice (some ⟨w.heap.size, 0, none⟩) len len, .int .i64 pos, .int .i64 dep, .bool sp] w1 fun e w' => e = .returned (.tuple #[.bool false, .slice (some ⟨w.heap.size, 0, none⟩) len len, .int .i64 pos, .int .i64 dep, .bool sp]) ∧ Below w1.heap.size w1 w')
    (H7 : ∀ w1, Bytes w1 w.heap.size 0 len f → Calls Trym.prog 7 #[.slice (some ⟨w.heap.size, 0, none⟩) len len, .int .i64 pos] w1 fun e w' => e = .returned (.tuple #[.bool false, .int .i64 e2]) ∧ w' = w1) :
    Calls Trym.prog 3 #[.slice (some ad) len cap, .int .i64 pos, .int .i64 dep, .bool sp] w fun e w' => e = .returned (.bool true) ∧ Below w.heap.size w w' := by
  obtain ⟨i0, hi0, hz0, hz1, hz2⟩ := info_parts info5
  have Hz := zz5_yes (some ad) len cap pos dep sp w hl
  have hnl : ∀ w, (binOp .neq 22 (.slice (some ad) len cap) (.slice none 0 0)).run Trym.prog w = .ok (.bool true) w := fun w => run_neq_slice_nil w 22 5 (some ad) len cap Trym.underlying22
  have hpq : ∀ (x : Addr) (w : World), (binOp .neq 26 (.pointer (some x)) (.pointer (some x))).run Trym.prog w = .ok (.bool false) w := fun x w => Lib.run_neq_ptr_same w x Trym.underlying26 hi0
  obtain ⟨cs, hcs⟩ : ∃ cs : List Value, Hid (cs = (List.range len).map fun k => Value.int .u8 (f k)) := ⟨_, rfl⟩
  have hcl : cs.length = len := by rw [hcs.out]; simp
  have hcg : ∀ k, k < len → cs[k]? = some (.int .u8 (f k)) := fun k hk => by rw [hcs.out]; simp [hk]
  have hc1 : ∀ v ∈ cs, v.oneCell' = true := by rw [hcs.out]; intro v hv; simp at hv; obtain ⟨k, _, rfl⟩ := hv; rfl
  have hsrc : ∀ j v, cs[j]? = some v → w.cell? (ad.add j) = some v := by
    intro j v hj
    have hjl : j < len := by have := (List.getElem?_eq_some_iff.1 hj).1; omega
    rw [hcg j hjl] at hj
    rw [hcell j hjl, hj]
  go_enter Trym.func3, Trym.ntmps3
  go_wp2_with (first
    | (go_at_call 5; refine Hz.mono ?_; rintro e w ⟨rfl, rfl⟩)
    | (at_make; refine wpList_make_full _ rfl (.tmp 31) (.tmp 31) 22 rfl w.heap.size 5 i0 (.int .u8 0) 1 Trym.underlying22 hi0 hz0 hz1 .i64 .i64 len len len rfl rfl rfl rfl (by rw [hz2]; omega) (by unfold maxLen; omega) (Nat.le_refl _) ?_; intro w1 hown hgrow; have hbel : Below w.heap.size w w1 := (Below.refl _ _).grown hgrow (Nat.le_refl _) (by simp))
    | (refine wpList_copy_splice rfl (.tmp 33) (.tmp 34) 22 22 rfl 5 Trym.underlying22 size5 _ _ _ _ _ _ rfl rfl w.heap.size 0 _ 5 (row_of hown) cs (by rw [hcl]; exact (Nat.min_self len).symm) (fun _ => ⟨rfl, ad, rfl, src_below hsrc hbel⟩) (by rw [hcl, hown.1]; omega) hc1 w.heap.size w hbel (Nat.le_refl _) ?_; intro w2 HG hB2; have hb2 : Bytes w2 w.heap.size 0 len f := bytes_of (row_spliced HG.out (by rw [hcl, hown.1]; omega)) hcg; clear HG)
    | (go_at_call 6; refine (H6 _ hb2).mono ?_; rintro e w3 ⟨rfl, hB3⟩; have hb3 : Bytes w3 w.heap.size 0 len f := hb2.below hB3))
  have hend : Below w.heap.size w w3 := hB2.trans (hB3.mono hB2.size)
  clear hB2 hB3 hown hgrow hbel hsrc hcell hc1 hcg hb2 H6
  by_cases hlen : 0 < len
  · go_quiet (fail)
    go_wp2_with (go_at_call 7; refine (H7 _ (hb3.drewN _)).mono ?_; rintro e w4 ⟨rfl, rfl⟩)
    go_ret
    exact ⟨rfl, below_drewN hend _⟩
  · obtain rfl : len = 0 := by omega
    go_quiet (fail)
    go_wp2_with (go_at_call 7; refine (H7 _ (hb3.drewN _)).mono ?_; rintro e w4 ⟨rfl, rfl⟩)
    go_ret
    exact ⟨rfl, below_drewN hend _⟩

set_option maxHeartbeats 400000 in
theorem top_nil (pos dep : Int) (sp : Bool) (w : World) (h0 : 0 ≤ pos) (h1 : pos ≤ 9223372036854775807)
    (H6 : Calls Trym.prog 6 #[.slice none 0 0, .int .i64 pos, .int .i64 dep, .bool sp] w fun e w' => e = .returned (.tuple #[.bool false, .slice none 0 0, .int .i64 pos, .int .i64 dep, .bool sp]) ∧ Below w.heap.size w w')
    (H7 : ∀ w1, Calls Trym.prog 7 #[.slice none 0 0, .int .i64 pos] w1 fun e w' => e = .returned (.tuple #[.bool false, .int .i64 pos]) ∧ w' = w1) :
    Calls Trym.prog 3 #[.slice none 0 0, .int .i64 pos, .int .i64 dep, .bool sp] w fun e w' => e = .returned (.bool true) ∧ Below w.heap.size w w' := by
  have Hz := zz5_yes none 0 0 pos dep sp w (by omega)
  have hnl : ∀ w, (binOp .neq 22 (.slice none 0 0) (.slice none 0 0)).run Trym.prog w = .ok (.bool false) w := fun w => run_neq_slice_nil w 22 5 none 0 0 Trym.underlying22
  go_enter Trym.func3, Trym.ntmps3
  go_wp2_with (first
    | (go_at_call 5; refine Hz.mono ?_; rintro e w ⟨rfl, rfl⟩)
    | (go_at_call 6; refine H6.mono ?_; rintro e w3 ⟨rfl, hB3⟩))
  clear H6
  go_quiet (fail)
  go_wp2_with (go_at_call 7; refine (H7 _).mono ?_; rintro e w4 ⟨rfl, rfl⟩)
  go_ret
  exact ⟨rfl, below_drewN hB3 _⟩

set_option maxHeartbeats 400000 in
theorem top_long (a : Option Addr) (len cap : Nat) (pos dep : Int) (sp : Bool) (w : World) (hl : len ≤ 9223372036854775807) (h : 1048576 < len) :
    Calls Trym.prog 3 #[.slice a len cap, .int .i64 pos, .int .i64 dep, .bool sp] w fun e w' => e = .returned (.bool true) ∧ Below w.heap.size w w' := by
  have Hz := zz5_no a len cap pos dep sp w hl h
  go_enter Trym.func3, Trym.ntmps3
  go_wp2_with (go_at_call 5; refine Hz.mono ?_; rintro e w ⟨rfl, rfl⟩)
  go_ret
  exact ⟨rfl, Below.refl _ _⟩

set_option maxHeartbeats 400000 in
theorem top_neg (a : Option Addr) (len cap : Nat) (pos dep : Int) (sp : Bool) (w : World) (hl : len ≤ 1048576) (h : pos < 0) :
    Calls Trym.prog 3 #[.slice a len cap, .int .i64 pos, .int .i64 dep, .bool sp] w fun e w' => e = .returned (.bool true) ∧ Below w.heap.size w w' := by
  have Hz := zz5_yes a len cap pos dep sp w hl
  go_enter Trym.func3, Trym.ntmps3
  go_wp2_with (go_at_call 5; refine Hz.mono ?_; rintro e w ⟨rfl, rfl⟩)
  go_ret
  exact ⟨rfl, Below.refl _ _⟩

/-- ZZjsonReaderNumber where pos lies past the end. -/
theorem six_out (a : Option Addr) (len cap : Nat) (pos dep : Int) (sp : Bool) (w : World) (hl : len ≤ 1048576) (h0 : len ≤ pos) (h1 : pos ≤ 9223372036854775807) :
    Calls Trym.prog 6 #[.slice a len cap, .int .i64 pos, .int .i64 dep, .bool sp] w fun e w' => e = .returned (.tuple #[.bool false, .slice a len cap, .int .i64 pos, .int .i64 dep, .bool sp]) ∧ Below w.heap.size w w' := by
  refine (zz6 (.slice a len cap) a len cap rfl pos dep sp none w ?_).mono ?_
  · intro w1 hr _
    exact (num_out w.heap.size a len cap pos w1 hl h0 h1 hr.1 hr.2.1).mono fun e w' h => numEnd_of hr h
  · rintro e w' ⟨ok, p2, rfl, hb, _, hn⟩
    obtain ⟨rfl, rfl⟩ := hn rfl
    exact ⟨rfl, hb⟩

/-- ZZjsonReaderNumber inside. -/
theorem six_in (b len cap p : Nat) (dep : Int) (sp : Bool) (f : Nat → Int) (w : World) (hf : ∀ k, 0 ≤ f k ∧ f k ≤ 255) (hl : len ≤ 1048576) (hp : p < len) (hc : Bytes w b 0 len f) :
    Calls Trym.prog 6 #[.slice (some ⟨b, 0, none⟩) len cap, .int .i64 p, .int .i64 dep, .bool sp] w fun e w' => ∃ (ok : Bool) (p2 : Int), e = .returned (.tuple #[.bool ok, .slice (some ⟨b, 0, none⟩) len cap, .int .i64 p2, .int .i64 dep, .bool sp]) ∧ Below w.heap.size w w'
      ∧ (∀ n, num f len p = some n → ok = true ∧ p2 = (n : Nat)) ∧ (num f len p = none → ok = false ∧ p2 = p) := by
  refine zz6 (.slice (some ⟨b, 0, none⟩) len cap) (some ⟨b, 0, none⟩) len cap rfl p dep sp (num f len p) w ?_
  intro w1 hr hw1
  have hb1 : Bytes w1 b 0 len f := by subst hw1; exact hc.below ((Below.refl _ _).alloc (Nat.le_refl _) _)
  have hz : w1.frozen? ⟨w.heap.size, 1, none⟩ = false := by subst hw1; simp
  exact (num9 w.heap.size b 0 len cap p f w1 hf hl hp hb1 hr.1 hr.2.1 hz).mono fun e w' h => numEnd_of hr h

theorem top3_some (ad : Addr) (len cap : Nat) (pos dep : Int) (sp : Bool) (f : Nat → Int) (w : World) (hf : ∀ k, 0 ≤ f k ∧ f k ≤ 255) (hl : len ≤ 1048576) (h0 : 0 ≤ pos) (h1 : pos ≤ 9223372036854775807)
    (hcell : ∀ k, k < len → w.cell? (ad.add k) = some (.int .u8 (f k))) :
    Calls Trym.prog 3 #[.slice (some ad) len cap, .int .i64 pos, .int .i64 dep, .bool sp] w fun e w' => e = .returned (.bool true) ∧ Below w.heap.size w w' := by
  by_cases hp : pos < len
  · obtain ⟨p, rfl⟩ : ∃ p : Nat, pos = p := ⟨pos.toNat, by omega⟩
    have L := law f len p
    cases ho : num f len p with
    | some n =>
      obtain ⟨l1, l2⟩ := L.1 n ho
      refine top_D ad len cap p dep sp f w hl h0 h1 hcell n n rfl ?_ ?_
      · intro w1 hb
        refine (six_in w.heap.size len len p dep sp f w1 hf hl (by omega) hb).mono ?_
        rintro e w' ⟨ok, p2, rfl, hbel, hs, _⟩
        obtain ⟨rfl, rfl⟩ := hs n ho
        exact ⟨rfl, hbel⟩
      · intro w1 hb
        have := dfa7 w.heap.size 0 len len p f w1 hl (by omega) hb
        rw [l1, l2] at this
        exact this
    | none =>
      have l1 := L.2 ho
      refine top_N ad len cap p dep sp f w hl h0 h1 hcell ((run f len 0 p).2 : Nat) ?_ ?_
      · intro w1 hb
        refine (six_in w.heap.size len len p dep sp f w1 hf hl (by omega) hb).mono ?_
        rintro e w' ⟨ok, p2, rfl, hbel, _, hn⟩
        obtain ⟨rfl, rfl⟩ := hn ho
        exact ⟨rfl, hbel⟩
      · intro w1 hb
        have := dfa7 w.heap.size 0 len len p f w1 hl (by omega) hb
        rw [l1] at this
        exact this
  · refine top_N ad len cap pos dep sp f w hl h0 h1 hcell pos ?_ ?_
    · intro w1 hb
      exact six_out _ len len pos dep sp w1 hl (by omega) h1
    · intro w1 hb
      exact dfa_out _ len len pos w1 hl (by omega) h1

theorem top3_nil (pos dep : Int) (sp : Bool) (w : World) (h0 : 0 ≤ pos) (h1 : pos ≤ 9223372036854775807) :
    Calls Trym.prog 3 #[.slice none 0 0, .int .i64 pos, .int .i64 dep, .bool sp] w fun e w' => e = .returned (.bool true) ∧ Below w.heap.size w w' :=
  top_nil pos dep sp w h0 h1 (six_out none 0 0 pos dep sp w (by omega) (by omega) h1) (fun w1 => dfa_out none 0 0 pos w1 (by omega) (by omega) h1)
end Go.Proofs.Qxb6601773aMods.Num
