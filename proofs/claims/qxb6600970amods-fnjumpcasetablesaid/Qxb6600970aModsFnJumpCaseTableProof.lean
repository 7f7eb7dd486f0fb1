/-
  THE PROOF OF 'Rows.FnJumpCaseTableSaid': ITS FRAME WRITTEN BY PROGRAM (proof-skeleton.mjs) off the guide's own print for that function. Not trusted.
  The walk is typed by hand (an AI agent). ALL ELSE IS THE GUIDE's TEMPLATE (howto/template/XProofs.lean) at this function's number and types: leave it.
-/
import Derived.Test.Qxb6600970aModsRows
import Derived.WalkKit
import Derived.ProofKit
import Derived.OpenShut
import Derived.ShutString
import Derived.Test.Qxb6600970aModsJump
namespace Go.Proofs.Qxb6600970aMods.fnJumpCaseTable
open Go.ChangeShapes Go.WideShapes Go.ChangeAt Go.RowKit
open Go.ChangeMaps (open_string shut_string)
set_option linter.unusedVariables false      -- a walk need not use every 'w<i>' (that an integer argument fits its kind)

theorem own : ownKnob Trym.prog.godebug = none := by kernel_rfl

/-! ### STEP 1: THE WALK: the Go text returns true. 'Grown w w'': the world has at most new blocks (Derived/RowKit3.lean). Part the cases AHEAD of 'go_enter' where a test parts the walk; take each callee by a contract of your own. -/
set_option maxHeartbeats 400000 in
theorem zz (key n : Int) (w : World) (k0 : 0 ≤ key) (k1 : key < 18446744073709551616) (n0 : -9223372036854775808 ≤ n) (n1 : n ≤ 2147483648) :
    Calls Trym.prog 8 #[.int .u64 key, .int .i64 n] w fun e w' => ∃ r : Int, e = .returned (.int .i64 r) ∧ Jump.JOk key n r ∧ w' = w := by
  go_enter Trym.func8, Trym.ntmps8
  go_wp2_with (go_at_call 15; refine (Jump.jump_any _ _ _ k0 k1 n0 n1).mono ?_; rintro e w' ⟨r, rfl, hr, rfl⟩)
  go_ret
  exact ⟨r, rfl, hr, rfl⟩

theorem jok_one {key r : Int} (h : Jump.JOk key 1 r) : r = 0 := by
  have := h.2.1 (by omega)
  omega

theorem bd_u64 {a : Int} (h : (Lit.int .u64 a).wf = true) : 0 ≤ a ∧ a < 18446744073709551616 := by
  simp [Lit.wf, IntKind.min, IntKind.max, IntKind.signed, IntKind.bits] at h; omega

theorem bd_i64 {a : Int} (h : (Lit.int .i64 a).wf = true) : -9223372036854775808 ≤ a ∧ a ≤ 9223372036854775807 := by
  simp [Lit.wf, IntKind.min, IntKind.max, IntKind.signed, IntKind.bits] at h; omega

set_option maxHeartbeats 400000 in
theorem walk (a0 : Int) (a1 : Int) (w0 : (Lit.int .u64 a0).wf = true) (w1 : (Lit.int .i64 a1).wf = true) (w : World) :
    Calls Trym.prog 3 #[.int .u64 a0, .int .i64 a1] w fun e w' => e = .returned (.bool true) ∧ Grown w w' := by
  obtain ⟨k0, k1⟩ := bd_u64 w0
  obtain ⟨n0, n1⟩ := bd_i64 w1
  clear w0 w1
  by_cases hbig : 2147483648 < a1
  · go_enter Trym.func3, Trym.ntmps3
    go_wp2
    go_ret
    exact ⟨rfl, Grown.refl _⟩
  · have hn : a1 ≤ 2147483648 := by omega
    clear hbig
    by_cases c0 : a1 ≤ 0
    · go_enter Trym.func3, Trym.ntmps3
      go_wp2_with (go_at_call 8; refine (zz _ _ _ k0 k1 n0 hn).mono ?_; rintro e w' ⟨r, rfl, hr, rfl⟩; obtain rfl : r = -1 := hr.1 c0; clear hr)
      go_ret
      exact ⟨rfl, Grown.refl _⟩
    · by_cases c1 : a1 = 1
      · subst c1
        go_enter Trym.func3, Trym.ntmps3
        go_wp2_with (go_at_call 8; refine (zz _ _ _ k0 k1 n0 hn).mono ?_; rintro e w' ⟨r, rfl, hr, rfl⟩; obtain rfl : r = 0 := jok_one hr; clear hr)
        go_ret
        exact ⟨rfl, Grown.refl _⟩
      · by_cases c2 : a1 = 2
        · subst c2
          by_cases hs : 9223372036854775808 ≤ Jump.S a0
          · have hs' : 9223372036854775808 ≤ IntKind.u64.wrap (IntKind.u64.wrap (a0 * 2862933555777685757) + 1) := hs
            go_enter Trym.func3, Trym.ntmps3
            go_wp2_with (go_at_call 8; refine (zz _ _ _ k0 k1 n0 hn).mono ?_; rintro e w' ⟨r, rfl, hr, rfl⟩; obtain rfl : r = 1 := hr.2.2.1 rfl hs; clear hr)
            go_ret
            exact ⟨rfl, Grown.refl _⟩
          · have hs' : ¬ 9223372036854775808 ≤ IntKind.u64.wrap (IntKind.u64.wrap (a0 * 2862933555777685757) + 1) := hs
            go_enter Trym.func3, Trym.ntmps3
            go_wp2_with (go_at_call 8; refine (zz _ _ _ k0 k1 n0 hn).mono ?_; rintro e w' ⟨r, rfl, hr, rfl⟩; obtain rfl : r = 0 := hr.2.2.2 rfl (by omega); clear hr)
            go_ret
            exact ⟨rfl, Grown.refl _⟩
        · have d1 : (a1 == 1) = false := by simpa using c1
          have d2 : (a1 == 2) = false := by simpa using c2
          go_enter Trym.func3, Trym.ntmps3
          go_wp2_with (go_at_call 8; refine (zz _ _ _ k0 k1 n0 hn).mono ?_; rintro e w' ⟨r, rfl, hr, rfl⟩; obtain ⟨r0, r1⟩ := hr.2.1 (by omega); clear hr)
          go_ret
          exact ⟨rfl, Grown.refl _⟩

/-! ### THE ROW's STEP: WRITTEN OUT: LEAVE IT -/
set_option maxRecDepth 100000 in
theorem lifted (os : Os) (started : os.Started) (H : Type) (enc : TypeId × Value → H) :
    ReturnsInHanded {} Trym.checked os 3 .any (Rows.fnJumpCaseTableSpec.pre6 enc Trym.prog Trym.f3 Rows.fnJumpCaseTableRow.domain false) (Rows.fnJumpCaseTableSpec.post enc Trym.prog Trym.f3 false true false false) := by
  refine returnsInHanded_of_change (C := Trym.checked) own started (by kernel_rfl) Trym.func3
    (ChangeSpec.witness6 (enc := enc) (C := Trym.checked) false ⟨#[], #[.int .u64 0, .int .i64 0], []⟩ 8 (by kernel_rfl) (by kernel_rfl) (by kernel_rfl) (by kernel_rfl)) ?_
  intro W base args ds gs before hval0 hW hcnd _
  have hval : ∀ (j : Nat) t v, Trym.f3.params[j]? = some t → args[j]? = some v → Value.okWide Trym.prog W .any base t v := hval0
  have hW' := hW
  obtain ⟨p, q, hA0, hV, rfl, hfz, hnd⟩ := hW
  have hA : DataW.TrodAll enc Trym.prog W 0 (fun _ => true) true Trym.f3.params.toList args.toList ds p := hA0
  rw [Trym.params3] at hA hval
  obtain ⟨v0, vs0, d0, ds0, p0, q0, hargs, rfl, rfl, h0, r0⟩ := trodAll_cons hA
  obtain ⟨v1, vs1, d1, ds1, p1, q1, rfl, rfl, rfl, h1, r1⟩ := trodAll_cons r0
  obtain ⟨rfl, rfl, rfl⟩ := trodAll_nil r1
  obtain rfl : args = #[v0, v1] := by cases args; simp_all
  obtain ⟨rfl, rfl⟩ := trodVars_none hV
  obtain ⟨a0, rfl, rfl, rfl, w0⟩ := open_int Trym.underlying22 (hval 0 22 v0 rfl rfl) h0
  obtain ⟨a1, rfl, rfl, rfl, w1⟩ := open_int Trym.underlying3 (hval 1 3 v1 rfl rfl) h1
  clear hA0 hval0
  simp only [List.append_nil] at hW'
  refine (walk a0 a1 w0 w1 W).mono fun e W' ⟨he, hg⟩ => ?_
  subst he
  exact ⟨_, rfl, post_of_same (pa := []) (pv := []) hW' (fun _ _ _ => (trodAll_cons_mk (shut_bool Trym.underlying4 _) trodAll_mk0)) (fun sp _ => (trodAll_cons_mk (shut_int Trym.underlying22 w0) (trodAll_cons_mk (shut_int Trym.underlying3 w1) trodAll_mk0))) (fun _ _ => rfl) rfl
    (hg.frame _) hg.2.1 (ok_one (by kernel_rfl) rfl (okWide_bool_mk Trym.underlying4 _))⟩

theorem over : Rows.fnJumpCaseTableRow.holds Trym.pinned (OpenSpec.ofChange Rows.fnJumpCaseTableSpec) :=
  OpenClaim.holds_of_wide 3 Trym.f3 rfl rfl rfl rfl rfl rfl rfl ⟨rfl, rfl, rfl, rfl, rfl⟩ rfl rfl rfl rfl rfl (by kernel_rfl) Trym.func3 (by kernel_rfl)
    (of_decide_eq_true (by kernel_rfl)) (by unfold Func.isWrapper; first | (rw [if_pos (by decide +kernel)]; kernel_rfl) | (rw [if_neg (by decide +kernel)]; exact ⟨rfl, rfl⟩))
    (fun os started H enc _ => lifted os started H enc)

/-- ████ THE STATEMENT ████ -/
theorem proved : Rows.FnJumpCaseTableSaid :=
  over
end Go.Proofs.Qxb6600970aMods.fnJumpCaseTable
namespace Go.Proofs.Qxb6600970aMods
theorem fnJumpCaseTable_proved : Rows.FnJumpCaseTableSaid := fnJumpCaseTable.proved
end Go.Proofs.Qxb6600970aMods
