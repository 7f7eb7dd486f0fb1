/-
  THE PLAIN LAW behind FnNumberMatchesDFA: no Go in sight. 'f k': the byte at place k; 'len': how many there are.
-/
namespace Go.Proofs.Qxb6601773aMods.Dfa

def dig (c : Int) : Prop := 48 ≤ c ∧ c ≤ 57
theorem dig_iff (c : Int) : dig c ↔ 48 ≤ c ∧ c ≤ 57 := Iff.rfl
theorem not_dig (c : Int) : ¬ dig c ↔ c < 48 ∨ 57 < c := by rw [dig_iff]; omega

/-- numStep. -/
def nstep (s c : Int) : Int :=
  if s = 0 then (if c = 45 then 1 else if c = 48 then 2 else if 48 ≤ c ∧ c ≤ 57 then 3 else 9)
  else if s = 1 then (if c = 48 then 2 else if 48 ≤ c ∧ c ≤ 57 then 3 else 9)
  else if s = 2 then (if c = 46 then 4 else if c = 101 ∨ c = 69 then 6 else 9)
  else if s = 3 then (if 48 ≤ c ∧ c ≤ 57 then 3 else if c = 46 then 4 else if c = 101 ∨ c = 69 then 6 else 9)
  else if s = 4 then (if 48 ≤ c ∧ c ≤ 57 then 5 else 9)
  else if s = 5 then (if 48 ≤ c ∧ c ≤ 57 then 5 else if c = 101 ∨ c = 69 then 6 else 9)
  else if s = 6 then (if c = 43 ∨ c = 45 then 7 else if 48 ≤ c ∧ c ≤ 57 then 8 else 9)
  else (if 48 ≤ c ∧ c ≤ 57 then 8 else 9)

/-- numAccepting. -/
def acc (s : Int) : Bool := decide (s = 2 ∨ s = 3 ∨ s = 5 ∨ s = 8)

section
variable (f : Nat → Int) (len : Nat)

def dEn : Nat → Nat → Nat
  | 0, i => i
  | n + 1, i => if 48 ≤ f i ∧ f i ≤ 57 then dEn n (i + 1) else i

/-- digitsEnd. -/
def dE (i : Nat) : Nat := dEn f (len - i) i

def runn : Nat → Int → Nat → Int × Nat
  | 0, s, i => (s, i)
  | n + 1, s, i => if nstep s (f i) = 9 then (s, i) else runn n (nstep s (f i)) (i + 1)

/-- numberDFA: the state and the place where it stops. -/
def run (s : Int) (i : Nat) : Int × Nat := runn f (len - i) s i

theorem dE_yes {i : Nat} (h : i < len) (h1 : 48 ≤ f i ∧ f i ≤ 57) : dE f len i = dE f len (i + 1) := by
  unfold dE
  obtain ⟨n, hn⟩ : ∃ n, len - i = n + 1 := ⟨len - i - 1, by omega⟩
  rw [hn, show len - (i + 1) = n by omega, dEn, if_pos h1]

theorem dE_no {i : Nat} (h : ¬ (i < len ∧ 48 ≤ f i ∧ f i ≤ 57)) : dE f len i = i := by
  unfold dE
  by_cases hi : i < len
  · obtain ⟨n, hn⟩ : ∃ n, len - i = n + 1 := ⟨len - i - 1, by omega⟩
    rw [hn, dEn, if_neg (fun h1 => h ⟨hi, h1⟩)]
  · rw [show len - i = 0 by omega, dEn]

theorem run_go {s : Int} {i : Nat} (h : i < len) (h1 : nstep s (f i) ≠ 9) : run f len s i = run f len (nstep s (f i)) (i + 1) := by
  unfold run
  obtain ⟨n, hn⟩ : ∃ n, len - i = n + 1 := ⟨len - i - 1, by omega⟩
  rw [hn, show len - (i + 1) = n by omega, runn, if_neg h1]

theorem run_stop {s : Int} {i : Nat} (h : ¬ (i < len ∧ nstep s (f i) ≠ 9)) : run f len s i = (s, i) := by
  unfold run
  by_cases hi : i < len
  · obtain ⟨n, hn⟩ : ∃ n, len - i = n + 1 := ⟨len - i - 1, by omega⟩
    rw [hn, runn, if_pos (by by_cases e : nstep s (f i) = 9; exact e; exact absurd ⟨hi, e⟩ h)]
  · rw [show len - i = 0 by omega, runn]

/-- What digitsEnd gives. -/
theorem dE_facts (n i : Nat) (hn : len - i = n) : i ≤ dE f len i ∧ (i ≤ len → dE f len i ≤ len) ∧ ¬ (dE f len i < len ∧ 48 ≤ f (dE f len i) ∧ f (dE f len i) ≤ 57)
    ∧ (i < dE f len i → 48 ≤ f (dE f len i - 1) ∧ f (dE f len i - 1) ≤ 57) := by
  induction n generalizing i with
  | zero =>
    rw [dE_no f len (by omega)]
    exact ⟨Nat.le_refl _, fun h => h, by omega, fun h => by omega⟩
  | succ n ih =>
    by_cases h : 48 ≤ f i ∧ f i ≤ 57
    · have hi : i < len := by omega
      obtain ⟨a1, a2, a3, a4⟩ := ih (i + 1) (by omega)
      rw [dE_yes f len hi h]
      refine ⟨by omega, fun _ => a2 (by omega), a3, fun _ => ?_⟩
      by_cases e : dE f len (i + 1) = i + 1
      · rw [e]; exact h
      · exact a4 (by omega)
    · rw [dE_no f len (by intro h1; exact h h1.2)]
      exact ⟨Nat.le_refl _, fun h => h, by intro h1; exact h h1.2, fun h => by omega⟩

/-- In a state that digits don't leave. -/
theorem run_digits (s : Int) (hs : ∀ c, 48 ≤ c ∧ c ≤ 57 → nstep s c = s) (h9 : s ≠ 9) (n i : Nat) (hn : len - i = n) : run f len s i = run f len s (dE f len i) := by
  induction n generalizing i with
  | zero => rw [dE_no f len (by omega)]
  | succ n ih =>
    by_cases h : 48 ≤ f i ∧ f i ≤ 57
    · have hi : i < len := by omega
      have e := hs _ h
      rw [dE_yes f len hi h, run_go f len hi (by rw [e]; exact h9), e]
      exact ih (i + 1) (by omega)
    · rw [dE_no f len (by intro h1; exact h h1.2)]

/-! ### number, in its four parts -/
def s1 (p : Nat) : Nat := if p < len ∧ f p = 45 then p + 1 else p
def s2 (i : Nat) : Option Nat := if i < len ∧ f i = 48 then some (i + 1) else if i < len ∧ 49 ≤ f i ∧ f i ≤ 57 then some (dE f len (i + 1)) else none
def s3 (i : Nat) : Option Nat := if i < len ∧ f i = 46 then (if dE f len (i + 1) = i + 1 then none else some (dE f len (i + 1))) else some i
def sg (j : Nat) : Nat := if j < len ∧ (f j = 43 ∨ f j = 45) then j + 1 else j
def s4 (i : Nat) : Option Nat := if i < len ∧ (f i = 101 ∨ f i = 69) then (if dE f len (sg f len (i + 1)) = sg f len (i + 1) then none else some (dE f len (sg f len (i + 1)))) else some i
def num (p : Nat) : Option Nat := (s2 f len (s1 f len p)).bind fun i => (s3 f len i).bind (s4 f len)

/-- The automaton's end and number's answer agree. -/
def Good (r : Int × Nat) (o : Option Nat) : Prop := (∀ n, o = some n → acc r.1 = true ∧ r.2 = n) ∧ (o = none → acc r.1 = false)

theorem good_some {r : Int × Nat} {n : Nat} (h : acc r.1 = true) (h2 : r.2 = n) : Good r (some n) := ⟨fun m hm => by cases hm; exact ⟨h, h2⟩, fun h => by cases h⟩
theorem good_none {r : Int × Nat} (h : acc r.1 = false) : Good r none := ⟨fun m hm => (by cases hm), fun _ => h⟩

theorem nstep8 (c : Int) (h : 48 ≤ c ∧ c ≤ 57) : nstep 8 c = 8 := by simp [nstep]; omega
theorem nstep8n (c : Int) (h : ¬ (48 ≤ c ∧ c ≤ 57)) : nstep 8 c = 9 := by simp [nstep]; omega

/-- The digits of an exponent, from 6 (behind e) or 7 (behind a sign). -/
theorem expDigits (s : Int) (hs : ∀ c, 48 ≤ c ∧ c ≤ 57 → nstep s c = 8) (hn : acc s = false) (j : Nat) (hstop : ¬ (j < len ∧ 48 ≤ f j ∧ f j ≤ 57) → ¬ (j < len ∧ nstep s (f j) ≠ 9)) :
    Good (run f len s j) (if dE f len j = j then none else some (dE f len j)) := by
  by_cases h : j < len ∧ 48 ≤ f j ∧ f j ≤ 57
  · obtain ⟨a1, a2, a3, a4⟩ := dE_facts f len _ (j + 1) rfl
    have e := dE_yes f len h.1 h.2
    have e8 := hs _ h.2
    rw [if_neg (by omega), run_go f len h.1 (by rw [e8]; decide), e8, run_digits f len 8 nstep8 (by decide) _ (j + 1) rfl, e]
    rw [run_stop f len]
    · exact good_some (by simp [acc]) rfl
    · intro hh
      exact hh.2 (nstep8n _ (fun hd => a3 ⟨hh.1, hd⟩))
  · rw [dE_no f len h, if_pos rfl, run_stop f len (hstop h)]
    exact good_none hn

theorem law4 (s : Int) (i : Nat) (hacc : acc s = true) (he : i < len → f i = 101 ∨ f i = 69 → nstep s (f i) = 6) (hne : i < len → ¬ (f i = 101 ∨ f i = 69) → nstep s (f i) = 9) : Good (run f len s i) (s4 f len i) := by
  unfold s4
  by_cases h : i < len ∧ (f i = 101 ∨ f i = 69)
  · rw [if_pos h, run_go f len h.1 (by rw [he h.1 h.2]; decide), he h.1 h.2]
    by_cases hg : i + 1 < len ∧ (f (i + 1) = 43 ∨ f (i + 1) = 45)
    · have e7 : nstep 6 (f (i + 1)) = 7 := by simp [nstep, hg.2]
      have es : sg f len (i + 1) = i + 1 + 1 := by unfold sg; rw [if_pos hg]
      rw [es, run_go f len hg.1 (by rw [e7]; decide), e7]
      refine expDigits f len 7 ?_ (by decide) _ ?_
      · intro c hc; simp [nstep]; omega
      · intro h1 h2; exact h2.2 (by simp [nstep]; omega)
    · have es : sg f len (i + 1) = i + 1 := by unfold sg; rw [if_neg hg]
      rw [es]
      refine expDigits f len 6 ?_ (by decide) _ ?_
      · intro c hc; simp [nstep]; omega
      · intro h1 h2
        refine h2.2 ?_
        have : ¬ (f (i + 1) = 43 ∨ f (i + 1) = 45) := fun hx => hg ⟨h2.1, hx⟩
        simp [nstep, this]; omega
  · rw [if_neg h, run_stop f len]
    · exact good_some hacc rfl
    · intro hh
      exact hh.2 (hne hh.1 (fun hx => h ⟨hh.1, hx⟩))

theorem law3 (s : Int) (i : Nat) (hs : s = 2 ∨ s = 3 ∧ ¬ (i < len ∧ 48 ≤ f i ∧ f i ≤ 57)) : Good (run f len s i) ((s3 f len i).bind (s4 f len)) := by
  unfold s3
  by_cases h : i < len ∧ f i = 46
  · rw [if_pos h]
    have e4 : nstep s (f i) = 4 := by rcases hs with rfl | ⟨rfl, _⟩ <;> simp [nstep, h.2]
    rw [run_go f len h.1 (by rw [e4]; decide), e4]
    by_cases hd : i + 1 < len ∧ 48 ≤ f (i + 1) ∧ f (i + 1) ≤ 57
    · obtain ⟨a1, a2, a3, a4⟩ := dE_facts f len _ (i + 1 + 1) rfl
      have e := dE_yes f len hd.1 hd.2
      have e5 : nstep 4 (f (i + 1)) = 5 := by simp [nstep]; omega
      rw [if_neg (by omega), run_go f len hd.1 (by rw [e5]; decide), e5, run_digits f len 5 (fun c hc => by simp [nstep]; omega) (by decide) _ (i + 1 + 1) rfl, e]
      simp only [Option.bind_some]
      refine law4 f len 5 _ (by decide) ?_ ?_
      · intro h1 h2; simp [nstep, h2]; omega
      · intro h1 h2
        have : ¬ (48 ≤ f (dE f len (i + 1 + 1)) ∧ f (dE f len (i + 1 + 1)) ≤ 57) := fun hx => a3 ⟨h1, hx⟩
        simp [nstep, h2]; omega
    · rw [dE_no f len hd, if_pos rfl, run_stop f len]
      · exact good_none (by simp [acc])
      · intro hh
        refine hh.2 ?_
        have : ¬ (48 ≤ f (i + 1) ∧ f (i + 1) ≤ 57) := fun hx => hd ⟨hh.1, hx⟩
        simp [nstep]; omega
  · rw [if_neg h]
    simp only [Option.bind_some]
    refine law4 f len s i (by rcases hs with rfl | ⟨rfl, _⟩ <;> decide) ?_ ?_
    · intro h1 h2
      have h46 : ¬ f i = 46 := by omega
      rcases hs with rfl | ⟨rfl, h3⟩
      · simp [nstep, h46, h2]
      · have h3' : ¬ (48 ≤ f i ∧ f i ≤ 57) := fun hx => h3 ⟨h1, hx⟩
        simp [nstep, h46, h2]; omega
    · intro h1 h2
      have h46 : ¬ f i = 46 := fun hx => h ⟨h1, hx⟩
      rcases hs with rfl | ⟨rfl, h3⟩
      · simp [nstep, h46, h2]
      · have h3' : ¬ (48 ≤ f i ∧ f i ≤ 57) := fun hx => h3 ⟨h1, hx⟩
        simp [nstep, h46, h2]; omega

theorem law2 (s : Int) (i : Nat) (hs : s = 0 ∧ ¬ (i < len ∧ f i = 45) ∨ s = 1) : Good (run f len s i) ((s2 f len i).bind fun i => (s3 f len i).bind (s4 f len)) := by
  unfold s2
  by_cases h0 : i < len ∧ f i = 48
  · rw [if_pos h0]
    have e : nstep s (f i) = 2 := by rcases hs with ⟨rfl, _⟩ | rfl <;> simp [nstep, h0.2]
    rw [run_go f len h0.1 (by rw [e]; decide), e]
    simp only [Option.bind_some]
    exact law3 f len 2 _ (Or.inl rfl)
  · rw [if_neg h0]
    by_cases h1 : i < len ∧ 49 ≤ f i ∧ f i ≤ 57
    · rw [if_pos h1]
      have e : nstep s (f i) = 3 := by rcases hs with ⟨rfl, _⟩ | rfl <;> (simp [nstep]; omega)
      rw [run_go f len h1.1 (by rw [e]; decide), e, run_digits f len 3 (fun c hc => by simp [nstep]; omega) (by decide) _ (i + 1) rfl]
      simp only [Option.bind_some]
      obtain ⟨a1, a2, a3, a4⟩ := dE_facts f len _ (i + 1) rfl
      exact law3 f len 3 _ (Or.inr ⟨rfl, a3⟩)
    · rw [if_neg h1, run_stop f len]
      · exact good_none (by rcases hs with ⟨rfl, _⟩ | rfl <;> simp [acc])
      · intro hh
        refine hh.2 ?_
        have c0 : ¬ f i = 48 := fun hx => h0 ⟨hh.1, hx⟩
        have c1 : ¬ (49 ≤ f i ∧ f i ≤ 57) := fun hx => h1 ⟨hh.1, hx⟩
        rcases hs with ⟨rfl, h4⟩ | rfl
        · have c4 : ¬ f i = 45 := fun hx => h4 ⟨hh.1, hx⟩
          simp [nstep, c4, c0]; omega
        · simp [nstep, c0]; omega

/-- ████ THE PLAIN LAW ████ -/
theorem law (p : Nat) : Good (run f len 0 p) (num f len p) := by
  unfold num s1
  by_cases h : p < len ∧ f p = 45
  · rw [if_pos h]
    have e : nstep 0 (f p) = 1 := by simp [nstep, h.2]
    rw [run_go f len h.1 (by rw [e]; decide), e]
    exact law2 f len 1 _ (Or.inr rfl)
  · rw [if_neg h]
    exact law2 f len 0 _ (Or.inl ⟨rfl, h⟩)
end
end Go.Proofs.Qxb6601773aMods.Dfa
