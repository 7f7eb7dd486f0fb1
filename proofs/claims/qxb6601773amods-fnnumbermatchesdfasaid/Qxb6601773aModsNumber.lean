import Derived.Test.Qxb6601773aModsRun
import Derived.Deep.CutRange
import Derived.Deep.DeepCutAuto
namespace Go.Proofs.Qxb6601773aMods.Num
open Go.RowKit Go.Proofs.Qxb6601773aMods.Dfa
set_option linter.unusedVariables false

/-- What number leaves: its answer; pos stored, or nothing turned (but for draws). -/
def NumPost (w : World) (B : Nat) (o : Option Nat) (e : Ending) (w' : World) : Prop :=
  ∃ q, (∃ n, o = some n ∧ e = .returned (.bool true) ∧ w' = (w.drewN q).setCell ⟨B, 1, none⟩ (.int .i64 (n : Nat))) ∨ (o = none ∧ e = .returned (.bool false) ∧ w' = w.drewN q)

theorem post_no {w : World} {B : Nat} {o : Option Nat} (h : o = none) : NumPost w B o (.returned (.bool false)) w.drew := ⟨1, Or.inr ⟨h, rfl, rfl⟩⟩
theorem post_yes {w : World} {B : Nat} {o : Option Nat} {n : Nat} (h : o = some n) : NumPost w B o (.returned (.bool true)) (w.drew.setCell ⟨B, 1, none⟩ (.int .i64 (n : Nat))) := ⟨1, Or.inl ⟨n, h, rfl, rfl⟩⟩

/-- digitsEnd, its argument spelt as the walk spells it. -/
theorem digits_at (b off len cap i0 : Nat) (v : Int) (f : Nat → Int) (w : World) (hv : v = (i0 : Nat)) (hf : ∀ k, 0 ≤ f k ∧ f k ≤ 255) (hl : len ≤ 1048576) (hi : i0 ≤ len) (hc : Bytes w b off len f) :
    Calls Trym.prog 12 #[.slice (some ⟨b, off, none⟩) len cap, .int .i64 v] w fun e w' => e = .returned (.int .i64 (dE f len i0 : Nat)) ∧ w' = w := by
  subst hv; exact digits12 b off len cap i0 f w hf hl hi hc

set_option maxRecDepth 20000 in
set_option maxHeartbeats 4000000 in
theorem num9 (B b off len cap p : Nat) (f : Nat → Int) (w : World) (hf : ∀ k, 0 ≤ f k ∧ f k ≤ 255) (hl : len ≤ 1048576) (hp : p < len) (hc : Bytes w b off len f)
    (hd0 : w.cell? ⟨B, 0, none⟩ = some (.slice (some ⟨b, off, none⟩) len cap)) (hd1 : w.cell? ⟨B, 1, none⟩ = some (.int .i64 p)) (hz : w.frozen? ⟨B, 1, none⟩ = false) :
    Calls Trym.prog 9 #[.pointer (some ⟨B, 0, none⟩)] w fun e w' => NumPost w B (num f len p) e w' := by
  have HN : Hid (num f len p = (s2 f len (s1 f len p)).bind fun i => (s3 f len i).bind (s4 f len)) := rfl
  have hD := fun (i0 : Nat) (v : Int) (hv : v = (i0 : Nat)) (hi : i0 ≤ len) => digits_at b off len cap i0 v f w.drew hv hf hl hi hc
  have hC : ∀ k, k < len → w.drew.cell? ⟨b, off + k, none⟩ = some (.int .u8 (f k)) := hc
  have c := hc p hp
  have l1 : p ≤ s1 f len p ∧ s1 f len p ≤ len := by unfold s1; split <;> omega
  have y1 := fun (h : f p = 45) => show s1 f len p = p + 1 by unfold s1; rw [if_pos ⟨hp, h⟩]
  have x1 := fun (h : ¬ f p = 45) => show s1 f len p = p by unfold s1; rw [if_neg (fun hh => h hh.2)]
  generalize s1 f len p = i1 at *
  generalize num f len p = o at *
  go_enter Trym.func9, Trym.ntmps9
  go_wp2
  go_region
  go_upto_if 24 with fail
  go_cut [4] (fun t4 wx => t4 = .int .i64 (i1 : Nat) ∧ wx = w.drew)
  case first =>
    by_cases h : f p = 45
    · have e : Hid (i1 = p + 1) := y1 h
      have hb : (f p == 45) = true := by simpa using h
      clear y1 x1 h
      go_wp2
      go_meet
      exact ⟨by rw [e.out]; rfl, rfl⟩
    · have e : Hid (i1 = p) := x1 h
      have hb : (f p == 45) = false := by simpa using h
      clear y1 x1 h
      go_wp2
      go_meet
      exact ⟨by rw [e.out], rfl⟩
  case rest =>
  obtain ⟨rfl, rfl⟩ := hcut
  clear y1 x1 c
  by_cases n1 : i1 < len
  · have c1 := hC i1 n1
    have a48 : f i1 = 48 → Hid (s2 f len i1 = some (i1 + 1)) := fun h => by show _ = _; unfold s2; rw [if_pos ⟨n1, h⟩]
    have adg : ¬ f i1 = 48 → 49 ≤ f i1 → f i1 ≤ 57 → Hid (s2 f len i1 = some (dE f len (i1 + 1))) := fun h h1 h2 => by show _ = _; unfold s2; rw [if_neg (by omega), if_pos ⟨n1, h1, h2⟩]
    have ano : ¬ f i1 = 48 → ¬ (49 ≤ f i1 ∧ f i1 ≤ 57) → Hid (o = none) := fun h h1 => by show _ = _; rw [HN.out]; unfold s2; rw [if_neg (by omega), if_neg (by omega)]; rfl
    obtain ⟨d1, d2, d3, d4⟩ := dE_facts f len _ (i1 + 1) rfl
    have d2' := d2 (by omega)
    have hD1 := hD (i1 + 1) (i1 + 1) (by omega) (by omega)
    clear d2 d3 d4
    generalize dE f len (i1 + 1) = e1 at *
    go_upto_if 37 with fail
    go_cut [4] (fun t4 wx => ∃ i2 : Nat, Hid (s2 f len i1 = some i2) ∧ i2 ≤ len ∧ t4 = .int .i64 (i2 : Nat) ∧ wx = w.drew)
    case first =>
      by_cases h : f i1 = 48
      · have y := a48 h
        have hb : (f i1 == 48) = true := by simpa using h
        clear a48 adg ano h
        go_wp2
        go_meet
        exact ⟨i1 + 1, y, by omega, by go_num, rfl⟩
      · have hb : (f i1 == 48) = false := by simpa using h
        by_cases h1 : 49 ≤ f i1
        · by_cases h2 : f i1 ≤ 57
          · have y := adg h h1 h2
            clear a48 adg ano h
            go_wp2_with (go_at_call 12; refine hD1.mono ?_; rintro e w' ⟨rfl, rfl⟩)
            go_meet
            exact ⟨e1, y, by omega, rfl, rfl⟩
          · have y := ano h (by omega)
            clear a48 adg ano h
            go_wp2
            go_ret
            exact post_no y.out
        · have y := ano h (by omega)
          clear a48 adg ano h
          go_wp2
          go_ret
          exact post_no y.out
    case rest =>
    obtain ⟨i2, hs2, n2, rfl, rfl⟩ := hcut
    have HN2 : Hid (o = (s3 f len i2).bind (s4 f len)) := by show _ = _; rw [HN.out, hs2.out]; rfl
    clear HN hs2 a48 adg ano c1 n1 hD1 d1 d2' l1
    by_cases m2 : i2 < len
    · have c2 := hC i2 m2
      have ano : ¬ f i2 = 46 → Hid (s3 f len i2 = some i2) := fun h => by show _ = _; unfold s3; rw [if_neg (by omega)]
      have abad : f i2 = 46 → dE f len (i2 + 1) = i2 + 1 → Hid (o = none) := fun h h1 => by show _ = _; rw [HN2.out]; unfold s3; rw [if_pos ⟨m2, h⟩, if_pos h1]; rfl
      have agood : f i2 = 46 → ¬ dE f len (i2 + 1) = i2 + 1 → Hid (s3 f len i2 = some (dE f len (i2 + 1))) := fun h h1 => by show _ = _; unfold s3; rw [if_pos ⟨m2, h⟩, if_neg h1]
      obtain ⟨d1, d2, d3, d4⟩ := dE_facts f len _ (i2 + 1) rfl
      have d2' := d2 (by omega)
      have hD1 := hD (i2 + 1) (i2 + 1) (by omega) (by omega)
      clear d2 d3
      generalize dE f len (i2 + 1) = e2 at *
      go_upto_if 72 with fail
      go_cut [4] (fun t4 wx => ∃ i3 : Nat, Hid (s3 f len i2 = some i3) ∧ i3 ≤ len ∧ t4 = .int .i64 (i3 : Nat) ∧ wx = w.drew)
      case first =>
        by_cases h : f i2 = 46
        · obtain ⟨m, rfl⟩ : ∃ m, e2 = m + 1 := ⟨e2 - 1, by omega⟩
          have cm := hC m (by omega)
          have hb : (f i2 == 46) = true := by simpa using h
          by_cases h1 : m = i2
          · subst h1
            have y := abad h rfl
            clear ano abad agood d4 h
            go_wp2_with (go_at_call 12; refine hD1.mono ?_; rintro e w' ⟨rfl, rfl⟩)
            go_ret
            exact post_no y.out
          · have y := agood h (by omega)
            have hm := d4 (by omega)
            rw [Nat.add_sub_cancel] at hm
            have hbm : (f m == 46) = false := by simp; omega
            clear ano abad agood d4 h
            go_wp2_with (go_at_call 12; refine hD1.mono ?_; rintro e w' ⟨rfl, rfl⟩)
            go_meet
            exact ⟨m + 1, y, by omega, by go_num, rfl⟩
        · have y := ano h
          have hb : (f i2 == 46) = false := by simpa using h
          clear ano abad agood d4 h
          go_wp2
          go_meet
          exact ⟨i2, y, by omega, rfl, rfl⟩
      case rest =>
      obtain ⟨i3, hs3, n3, rfl, rfl⟩ := hcut
      have HN3 : Hid (o = s4 f len i3) := by show _ = _; rw [HN2.out, hs3.out]; rfl
      clear HN2 hs3 ano abad agood c2 m2 hD1 d1 d2' d4
      by_cases m3 : i3 < len
      · have c3 := hC i3 m3
        by_cases hE : f i3 = 101 ∨ f i3 = 69
        · have HE : Hid (o = if dE f len (sg f len (i3 + 1)) = sg f len (i3 + 1) then none else some (dE f len (sg f len (i3 + 1)))) := by show _ = _; rw [HN3.out]; unfold s4; rw [if_pos ⟨m3, hE⟩]
          clear HN3
          go_upto_region 13 with fail
          go_cut [100] (fun t wx => t = .bool true ∧ wx = w.drew)
          case first =>
            rcases hE with h | h
            · have hb : (f i3 == 101) = true := by simpa using h
              clear h
              go_wp2
              go_meet
              exact ⟨rfl, rfl⟩
            · have hb : (f i3 == 101) = false := by simp; omega
              have hb2 : (f i3 == 69) = true := by simpa using h
              clear h
              go_wp2
              go_meet
              exact ⟨rfl, rfl⟩
          case rest =>
          obtain ⟨rfl, rfl⟩ := hcut
          clear c3 hE
          by_cases m4 : i3 + 1 < len
          · have c4 := hC (i3 + 1) m4
            by_cases hS : f (i3 + 1) = 43 ∨ f (i3 + 1) = 45
            · have es : sg f len (i3 + 1) = i3 + 2 := by unfold sg; rw [if_pos ⟨m4, hS⟩]
              have HE' : Hid (o = if dE f len (i3 + 2) = i3 + 2 then none else some (dE f len (i3 + 2))) := by show _ = _; rw [HE.out, es]
              obtain ⟨d1, d2, d3, d4⟩ := dE_facts f len _ (i3 + 2) rfl
              have hD1 := hD (i3 + 2) (i3 + 2) (by omega) (by omega)
              clear HE es d2 d3 d4
              generalize dE f len (i3 + 2) = e4 at *
              go_upto_region 15 with fail
              go_cut [120] (fun t wx => t = .bool true ∧ wx = w.drew)
              case first =>
                rcases hS with h | h
                · have hb : (f (i3 + 1) == 43) = true := by simpa using h
                  clear h
                  go_wp2
                  go_meet
                  exact ⟨rfl, rfl⟩
                · have hb : (f (i3 + 1) == 43) = false := by simp; omega
                  have hb2 : (f (i3 + 1) == 45) = true := by simpa using h
                  clear h
                  go_wp2
                  go_meet
                  exact ⟨rfl, rfl⟩
              case rest =>
              obtain ⟨rfl, rfl⟩ := hcut
              clear c4 hS
              by_cases h : e4 = i3 + 2
              · subst h
                have y : Hid (o = none) := by show _ = _; rw [HE'.out, if_pos rfl]
                clear HE'
                go_wp2_with (go_at_call 12; refine hD1.mono ?_; rintro e w' ⟨rfl, rfl⟩)
                go_ret
                exact post_no y.out
              · have y : Hid (o = some e4) := by show _ = _; rw [HE'.out, if_neg h]
                have hb : ((e4 : Int) == (i3 : Int) + 2) = false := by simp; omega
                clear HE'
                go_wp2_with (go_at_call 12; refine hD1.mono ?_; rintro e w' ⟨rfl, rfl⟩)
                go_ret
                exact post_yes y.out
            · have es : sg f len (i3 + 1) = i3 + 1 := by unfold sg; rw [if_neg (fun hh => hS hh.2)]
              have HE' : Hid (o = if dE f len (i3 + 1) = i3 + 1 then none else some (dE f len (i3 + 1))) := by show _ = _; rw [HE.out, es]
              obtain ⟨d1, d2, d3, d4⟩ := dE_facts f len _ (i3 + 1) rfl
              have hD1 := hD (i3 + 1) (i3 + 1) (by omega) (by omega)
              have hb1 : (f (i3 + 1) == 43) = false := by simp; omega
              have hb2 : (f (i3 + 1) == 45) = false := by simp; omega
              clear HE es d2 d3 d4 hS
              generalize dE f len (i3 + 1) = e4 at *
              by_cases h : e4 = i3 + 1
              · subst h
                have y : Hid (o = none) := by show _ = _; rw [HE'.out, if_pos rfl]
                clear HE'
                go_wp2_with (go_at_call 12; refine hD1.mono ?_; rintro e w' ⟨rfl, rfl⟩)
                go_ret
                exact post_no y.out
              · have y : Hid (o = some e4) := by show _ = _; rw [HE'.out, if_neg h]
                have hb : ((e4 : Int) == (i3 : Int) + 1) = false := by simp; omega
                clear HE'
                go_wp2_with (go_at_call 12; refine hD1.mono ?_; rintro e w' ⟨rfl, rfl⟩)
                go_ret
                exact post_yes y.out
          · have es : sg f len (i3 + 1) = i3 + 1 := by unfold sg; rw [if_neg (by omega)]
            have ed : dE f len (i3 + 1) = i3 + 1 := dE_no f len (by omega)
            have y : Hid (o = none) := by show _ = _; rw [HE.out, es, if_pos ed]
            have hD1 := hD (i3 + 1) (i3 + 1) (by omega) (by omega)
            rw [ed] at hD1
            clear HE es ed
            go_wp2_with (go_at_call 12; refine hD1.mono ?_; rintro e w' ⟨rfl, rfl⟩)
            go_ret
            exact post_no y.out
        · have HN' : Hid (o = some i3) := by show _ = _; rw [HN3.out]; unfold s4; rw [if_neg (fun hh => hE hh.2)]
          have hb1 : (f i3 == 101) = false := by simp; omega
          have hb2 : (f i3 == 69) = false := by simp; omega
          clear HN3 hE
          go_wp2
          go_ret
          exact post_yes HN'.out
      · have HN' : Hid (o = some i3) := by show _ = _; rw [HN3.out]; unfold s4; rw [if_neg (by omega)]
        clear HN3
        go_wp2
        go_ret
        exact post_yes HN'.out
    · have HN' : Hid (o = some i2) := by show _ = _; rw [HN2.out]; unfold s3; rw [if_neg (by omega)]; simp only [Option.bind_some]; unfold s4; rw [if_neg (by omega)]
      clear HN2
      go_wp2
      go_ret
      exact post_yes HN'.out
  · have HN' : Hid (o = none) := by rw [HN.out, s2, if_neg (by omega), if_neg (by omega)]; rfl
    go_wp2
    go_ret
    exact post_no HN'.out
end Go.Proofs.Qxb6601773aMods.Num
