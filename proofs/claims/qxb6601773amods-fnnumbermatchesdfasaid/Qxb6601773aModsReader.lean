import Derived.Test.Qxb6601773aModsNumber
import Derived.Deep.QuietTactic
import Derived.BigQuiet
namespace Go.Proofs.Qxb6601773aMods.Num
open Go.RowKit Go.Proofs.Qxb6601773aMods.Dfa
set_option linter.unusedVariables false

/-- A jsonReader in block B. -/
def Reader (w : World) (B : Nat) (d : Value) (p dep : Int) (sp : Bool) : Prop :=
  w.cell? ⟨B, 0, none⟩ = some d ∧ w.cell? ⟨B, 1, none⟩ = some (.int .i64 p) ∧ w.cell? ⟨B, 2, none⟩ = some (.int .i64 dep) ∧ w.cell? ⟨B, 3, none⟩ = some (.bool sp)

/-- number, as its caller takes it. -/
def NumEnd (w : World) (B : Nat) (d : Value) (p dep : Int) (sp : Bool) (o : Option Nat) (e : Ending) (w' : World) : Prop :=
  ∃ (ok : Bool) (p2 : Int), e = .returned (.bool ok) ∧ Reader w' B d p2 dep sp ∧ Below B w w' ∧ (∀ n, o = some n → ok = true ∧ p2 = (n : Nat)) ∧ (o = none → ok = false ∧ p2 = p)

theorem numEnd_of {w : World} {B : Nat} {d : Value} {p dep : Int} {sp : Bool} {o : Option Nat} {e : Ending} {w' : World} (hr : Reader w B d p dep sp) (h : NumPost w B o e w') : NumEnd w B d p dep sp o e w' := by
  obtain ⟨r0, r1, r2, r3⟩ := hr
  obtain ⟨q, ⟨n, rfl, rfl, rfl⟩ | ⟨rfl, rfl, rfl⟩⟩ := h
  · refine ⟨true, n, rfl, ⟨?_, ?_, ?_, ?_⟩, Below.setCell (p := ⟨B, 1, none⟩) (below_drewN (Below.refl B w) q) (Nat.le_refl B) _, fun m hm => (by cases hm; exact ⟨rfl, rfl⟩), fun h => (by cases h)⟩
    · rw [World.cell?_setCell_other _ _ _ _ (by simp)]; exact r0
    · exact World.cell?_setCell_same _ _ _ (u := .int .i64 p) r1
    · rw [World.cell?_setCell_other _ _ _ _ (by simp)]; exact r2
    · rw [World.cell?_setCell_other _ _ _ _ (by simp)]; exact r3
  · exact ⟨false, p, rfl, ⟨r0, r1, r2, r3⟩, below_drewN (Below.refl B w) q, fun m hm => (by cases hm), fun _ => ⟨rfl, rfl⟩⟩

set_option maxHeartbeats 400000 in
/-- number where pos lies past the end. -/
theorem num_out (B : Nat) (a : Option Addr) (len cap : Nat) (pos : Int) (w : World) (hl : len ≤ 1048576) (h0 : len ≤ pos) (h1 : pos ≤ 9223372036854775807)
    (hd0 : w.cell? ⟨B, 0, none⟩ = some (.slice a len cap)) (hd1 : w.cell? ⟨B, 1, none⟩ = some (.int .i64 pos)) :
    Calls Trym.prog 9 #[.pointer (some ⟨B, 0, none⟩)] w fun e w' => NumPost w B none e w' := by
  go_enter Trym.func9, Trym.ntmps9
  go_wp2
  go_region
  go_wp2
  go_ret
  exact post_no rfl

theorem results5 {fn : Func} {t u v x y : Tmp} (h : fn.results = #[.tmp t, .tmp u, .tmp v, .tmp x, .tmp y]) (tmps : Array Value) (P : Program) (w : World) :
    (results fn tmps).run P w = .ok (.tuple #[tmps.getD t undef, tmps.getD u undef, tmps.getD v undef, tmps.getD x undef, tmps.getD y undef]) w := by
  simp [results, h]

set_option maxHeartbeats 400000 in
/-- ZZjsonReaderNumber, out of what number does at the reader that it lays. -/
theorem zz6 (d : Value) (a : Option Addr) (len cap : Nat) (hd : d = .slice a len cap) (p dep : Int) (sp : Bool) (o : Option Nat) (w : World)
    (H : ∀ w1, Reader w1 w.heap.size d p dep sp → w1 = w.alloc (.cells #[d, .int .i64 p, .int .i64 dep, .bool sp] 32) → Calls Trym.prog 9 #[.pointer (some ⟨w.heap.size, 0, none⟩)] w1 fun e w' => NumEnd w1 w.heap.size d p dep sp o e w') :
    Calls Trym.prog 6 #[d, .int .i64 p, .int .i64 dep, .bool sp] w fun e w' => ∃ (ok : Bool) (p2 : Int), e = .returned (.tuple #[.bool ok, d, .int .i64 p2, .int .i64 dep, .bool sp]) ∧ Below w.heap.size w w' ∧ (∀ n, o = some n → ok = true ∧ p2 = (n : Nat)) ∧ (o = none → ok = false ∧ p2 = p) := by
  subst hd
  have H1 := H _ ⟨by simp, by simp, by simp, by simp⟩ rfl
  clear H
  go_enter Trym.func6, Trym.ntmps6
  go_wp2_with (go_at_call 9; refine H1.mono ?_; rintro e w2 ⟨ok, p2, rfl, ⟨e0, e1, e2, e3⟩, hb, hs, hn⟩)
  have HS : Hid (∀ n, o = some n → ok = true ∧ p2 = (n : Nat)) := hs
  have HN : Hid (o = none → ok = false ∧ p2 = p) := hn
  have HB : Below w.heap.size w w2 := ((Below.refl _ _).alloc (Nat.le_refl _) _).trans hb
  clear hs hn hb H1
  go_quiet (fail)
  go_wp2
  (try simp only [Exit.inBlock, Exit.then])
  refine bodyPost_ret (results5 rfl _ _ _) rfl ?_
  exact ⟨ok, p2, rfl, below_drewN HB _, HS.out, HN.out⟩
end Go.Proofs.Qxb6601773aMods.Num
