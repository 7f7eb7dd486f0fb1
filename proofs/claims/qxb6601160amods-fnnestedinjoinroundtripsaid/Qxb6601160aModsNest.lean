import Derived.Test.Qxb6601160aModsRows
import Derived.WalkKit
import Derived.ProofKit
import Derived.WalkSpells
import Derived.WalkLawsBesides
namespace Go.Proofs.Qxb6601160aMods.Nest
open Go.RowKit
set_option linter.unusedVariables false

/-! ### bytes -/
theorem ext_left (a b : ByteArray) : (a ++ b).extract 0 a.size = a := by
  apply ByteArray.ext
  simp [ByteArray.data_extract]

theorem ext_right (a b : ByteArray) : (a ++ b).extract a.size (a ++ b).size = b := by
  apply ByteArray.ext
  have e1 : a.size = a.data.size := rfl
  have e2 : b.size = b.data.size := rfl
  rw [ByteArray.size_append, ByteArray.data_extract, ByteArray.data_append, e1, e2]
  generalize a.data = A
  generalize b.data = B
  simp

theorem toList_self (a : ByteArray) : (a.toList == a.toList) = true := by simp

/-! ### strings.HasPrefix, strings.CutPrefix -/
set_option maxHeartbeats 400000 in
theorem hp24 (s p : ByteArray) (b : Bool) (w : World) (hs : s.size ≤ 9223372036854775807) (h : p.size ≤ s.size) (he : ((s.extract 0 p.size).toList == p.toList) = b) :
    Calls Trym.prog 24 #[.string s, .string p] w fun e w' => e = .returned (.bool b) ∧ w' = w := by
  subst he
  go_enter Trym.func24, Trym.ntmps24
  go_wp2
  go_ret
  exact ⟨rfl, rfl⟩

set_option maxHeartbeats 400000 in
theorem hp21 (s p : ByteArray) (b : Bool) (w : World) (hs : s.size ≤ 9223372036854775807) (h : p.size ≤ s.size) (he : ((s.extract 0 p.size).toList == p.toList) = b) :
    Calls Trym.prog 21 #[.string s, .string p] w fun e w' => e = .returned (.bool b) ∧ w' = w := by
  have H : Hid (((s.extract 0 p.size).toList == p.toList) = b) := he
  clear he
  go_enter Trym.func21, Trym.ntmps21
  go_wp2_with (go_at_call 24; refine (hp24 _ _ b _ hs h H.out).mono ?_; rintro e w' ⟨rfl, rfl⟩)
  go_ret
  exact ⟨rfl, rfl⟩

set_option maxHeartbeats 400000 in
theorem cp23 (p r : ByteArray) (w : World) (hs : (p ++ r).size ≤ 9223372036854775807) :
    Calls Trym.prog 23 #[.string (p ++ r), .string p] w fun e w' => e = .returned (.tuple #[.string r, .bool true]) ∧ w' = w := by
  have h : p.size ≤ (p ++ r).size := by rw [ByteArray.size_append]; omega
  have hL : Hid ((p ++ r).extract 0 p.size = p) := ext_left p r
  have hR : Hid ((p ++ r).extract p.size (p ++ r).size = r) := ext_right p r
  generalize p ++ r = s at *
  go_enter Trym.func23, Trym.ntmps23
  go_wp2_with (go_at_call 24; refine (hp24 _ _ true _ hs h (by rw [hL.out]; exact toList_self p)).mono ?_; rintro e w' ⟨rfl, rfl⟩)
  go_ret2
  rw [hR.out]
  exact ⟨rfl, rfl⟩

set_option maxHeartbeats 400000 in
theorem cp20 (p r : ByteArray) (w : World) (hs : (p ++ r).size ≤ 9223372036854775807) :
    Calls Trym.prog 20 #[.string (p ++ r), .string p] w fun e w' => e = .returned (.tuple #[.string r, .bool true]) ∧ w' = w := by
  have H := fun w => cp23 p r w hs
  generalize p ++ r = s at *
  go_enter Trym.func20, Trym.ntmps20
  go_wp2_with (go_at_call 23; refine (H _).mono ?_; rintro e w' ⟨rfl, rfl⟩)
  go_ret2
  exact ⟨rfl, rfl⟩

/-! ### nestedIn at a list that n leads -/
theorem one_size (c : UInt8) (w : ByteArray) : ((⟨#[c]⟩ : ByteArray) ++ w).size = 1 + w.size := by rw [ByteArray.size_append]; rfl
theorem one_head (c : UInt8) (w : ByteArray) : ((⟨#[c]⟩ : ByteArray) ++ w).extract 0 1 = ⟨#[c]⟩ := ext_left ⟨#[c]⟩ w
theorem one_tail (c : UInt8) (w : ByteArray) : ((⟨#[c]⟩ : ByteArray) ++ w).extract 1 (((⟨#[c]⟩ : ByteArray) ++ w).size) = w := ext_right ⟨#[c]⟩ w

set_option maxHeartbeats 400000 in
theorem in_dot (n x : ByteArray) (g N cap : Nat) (w : World) (hn : n.size ≤ 1048576) (hx : x.size ≤ 1048576) (hN : 0 < N) (hN2 : N ≤ 1048576) (hc : w.cell? ⟨g, 0, none⟩ = some (.string n)) :
    Calls Trym.prog 18 #[.string (n ++ (⟨#[46]⟩ ++ x)), .slice (some ⟨g, 0, none⟩) N cap] w fun e w' => e = .returned (.tuple #[.string n, .string x]) ∧ ∃ q, w' = w.drewN q := by
  have h1 := one_size 46 x
  have h2 := one_head 46 x
  have h3 : Hid _ := one_tail 46 x
  have hs : (n ++ ((⟨#[46]⟩ : ByteArray) ++ x)).size ≤ 9223372036854775807 := by rw [ByteArray.size_append]; omega
  have H := fun w => cp20 n (⟨#[46]⟩ ++ x) w hs
  have HP : ∀ w, Calls Trym.prog 21 #[.string ((⟨#[46]⟩ : ByteArray) ++ x), .string ⟨#[46]⟩] w fun e w' => e = .returned (.bool true) ∧ w' = w :=
    fun w => hp21 _ _ true w (by omega) (by rw [h1]; show 1 ≤ _; omega) (by show (ByteArray.toList (ByteArray.extract _ 0 1) == _) = true; rw [h2]; exact toList_self _)
  have r0 : 1 ≤ ((⟨#[46]⟩ : ByteArray) ++ x).size := by omega
  have r1 : ((⟨#[46]⟩ : ByteArray) ++ x).size ≤ 1048577 := by omega
  clear h1 h2
  generalize n ++ ((⟨#[46]⟩ : ByteArray) ++ x) = path at *
  generalize (⟨#[46]⟩ : ByteArray) ++ x = r at *
  go_enter Trym.func18, Trym.ntmps18
  go_wp2
  go_loop [12] (fun i => i = .int .i64 0) (fun _ => 0)
  case atStart => rfl
  case round =>
    subst hrel
    go_wp2_with (first
      | (go_at_call 20; refine (H _).mono ?_; rintro e w' ⟨rfl, rfl⟩)
      | (go_at_call 21; refine (HP _).mono ?_; rintro e w' ⟨rfl, rfl⟩))
    go_region
    go_wp2
    go_ret2
    rw [h3.out]
    exact ⟨rfl, 1, rfl⟩

set_option maxHeartbeats 400000 in
theorem in_list (n x : ByteArray) (g N cap : Nat) (w : World) (hn : n.size ≤ 1048576) (hx : x.size ≤ 1048576) (hN : 0 < N) (hN2 : N ≤ 1048576) (hc : w.cell? ⟨g, 0, none⟩ = some (.string n)) :
    Calls Trym.prog 18 #[.string (n ++ (⟨#[91]⟩ ++ x)), .slice (some ⟨g, 0, none⟩) N cap] w fun e w' => e = .returned (.tuple #[.string n, .string (⟨#[91]⟩ ++ x)]) ∧ ∃ q, w' = w.drewN q := by
  have h1 := one_size 91 x
  have h2 := one_head 91 x
  have hs : (n ++ ((⟨#[91]⟩ : ByteArray) ++ x)).size ≤ 9223372036854775807 := by rw [ByteArray.size_append]; omega
  have H := fun w => cp20 n (⟨#[91]⟩ ++ x) w hs
  have HP : ∀ w, Calls Trym.prog 21 #[.string ((⟨#[91]⟩ : ByteArray) ++ x), .string ⟨#[46]⟩] w fun e w' => e = .returned (.bool false) ∧ w' = w :=
    fun w => hp21 _ _ false w (by omega) (by rw [h1]; show 1 ≤ _; omega) (by show (ByteArray.toList (ByteArray.extract _ 0 1) == _) = false; rw [h2]; decide +kernel)
  have HL : ∀ w, Calls Trym.prog 21 #[.string ((⟨#[91]⟩ : ByteArray) ++ x), .string ⟨#[91]⟩] w fun e w' => e = .returned (.bool true) ∧ w' = w :=
    fun w => hp21 _ _ true w (by omega) (by rw [h1]; show 1 ≤ _; omega) (by show (ByteArray.toList (ByteArray.extract _ 0 1) == _) = true; rw [h2]; exact toList_self _)
  have r0 : 1 ≤ ((⟨#[91]⟩ : ByteArray) ++ x).size := by omega
  have r1 : ((⟨#[91]⟩ : ByteArray) ++ x).size ≤ 1048577 := by omega
  clear h1 h2
  generalize n ++ ((⟨#[91]⟩ : ByteArray) ++ x) = path at *
  generalize (⟨#[91]⟩ : ByteArray) ++ x = r at *
  go_enter Trym.func18, Trym.ntmps18
  go_wp2
  go_loop [12] (fun i => i = .int .i64 0) (fun _ => 0)
  case atStart => rfl
  case round =>
    subst hrel
    go_wp2_with (first
      | (go_at_call 20; refine (H _).mono ?_; rintro e w' ⟨rfl, rfl⟩)
      | (go_at_call 21; refine (HP _).mono ?_; rintro e w' ⟨rfl, rfl⟩)
      | (go_at_call 21; refine (HL _).mono ?_; rintro e w' ⟨rfl, rfl⟩))
    go_ret2
    exact ⟨rfl, 0, rfl⟩

set_option maxHeartbeats 400000 in
theorem zz_dot (n x : ByteArray) (g N cap : Nat) (w : World) (hn : n.size ≤ 1048576) (hx : x.size ≤ 1048576) (hN : 0 < N) (hN2 : N ≤ 1048576) (hc : w.cell? ⟨g, 0, none⟩ = some (.string n)) :
    Calls Trym.prog 15 #[.string (n ++ (⟨#[46]⟩ ++ x)), .slice (some ⟨g, 0, none⟩) N cap] w fun e w' => e = .returned (.tuple #[.string n, .string x]) ∧ ∃ q, w' = w.drewN q := by
  have H := in_dot n x g N cap w hn hx hN hN2 hc
  generalize n ++ ((⟨#[46]⟩ : ByteArray) ++ x) = path at *
  go_enter Trym.func15, Trym.ntmps15
  go_wp2_with (go_at_call 18; refine H.mono ?_; rintro e w' ⟨rfl, q, rfl⟩)
  go_ret2
  exact ⟨rfl, q, rfl⟩

set_option maxHeartbeats 400000 in
theorem zz_list (n x : ByteArray) (g N cap : Nat) (w : World) (hn : n.size ≤ 1048576) (hx : x.size ≤ 1048576) (hN : 0 < N) (hN2 : N ≤ 1048576) (hc : w.cell? ⟨g, 0, none⟩ = some (.string n)) :
    Calls Trym.prog 15 #[.string (n ++ (⟨#[91]⟩ ++ x)), .slice (some ⟨g, 0, none⟩) N cap] w fun e w' => e = .returned (.tuple #[.string n, .string (⟨#[91]⟩ ++ x)]) ∧ ∃ q, w' = w.drewN q := by
  have H := in_list n x g N cap w hn hx hN hN2 hc
  generalize n ++ ((⟨#[91]⟩ : ByteArray) ++ x) = path at *
  generalize (⟨#[91]⟩ : ByteArray) ++ x = r at *
  go_enter Trym.func15, Trym.ntmps15
  go_wp2_with (go_at_call 18; refine H.mono ?_; rintro e w' ⟨rfl, q, rfl⟩)
  go_ret2
  exact ⟨rfl, q, rfl⟩
end Go.Proofs.Qxb6601160aMods.Nest
