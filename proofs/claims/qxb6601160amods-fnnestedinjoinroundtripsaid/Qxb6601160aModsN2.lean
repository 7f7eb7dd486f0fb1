import Derived.Test.Qxb6601160aModsRows
import Derived.WalkKit
import Derived.ProofKit
import Derived.WalkSpells
import Derived.WalkLawsBesides
namespace Go.Proofs.Qxb6601160aMods.Nest
open Go.RowKit
set_option linter.unusedVariables false

/-- What is known of a slice of strings: its elements are 'ss', each in its cell. -/
def Strs (w : World) (a : Option Addr) (len : Nat) (ss : List ByteArray) : Prop :=
  ss.length = len ∧ ∀ k, k < len → ∃ b off s, a = some ⟨b, off, none⟩ ∧ w.cell? ⟨b, off + k, none⟩ = some (.string s) ∧ s.size ≤ 9223372036854775807 ∧ ss[k]? = some s

def AnyBool (e : Ending) : Prop := ∃ b, e = .returned (.bool b)

set_option maxHeartbeats 400000 in
theorem bytes12 (n x : ByteArray) (l : Bool) (a : Option Addr) (len cap : Nat) (ss : List ByteArray) (w : World) (hn : n.size ≤ 9223372036854775807) (hx : x.size ≤ 9223372036854775807) (hl : len ≤ 9223372036854775807) (hs : Strs w a len ss) :
    Calls Trym.prog 12 #[.string n, .string x, .bool l, .slice a len cap] w fun e w' => AnyBool e ∧ w' = w := by
  by_cases h1 : n.size ≤ 1048576
  · by_cases h2 : x.size ≤ 1048576
    · by_cases h3 : n.size + x.size ≤ 1048576
      · by_cases h4 : len ≤ 1048576
        · by_cases h5 : n.size + x.size + len ≤ 1048576
          · go_enter Trym.func12, Trym.ntmps12
            go_wp2
            go_loop [9, 10] (fun z i => ∃ (k : Nat) (q : Int), k ≤ len ∧ i = .int .i64 k ∧ z = .int .i64 q ∧ 0 ≤ q ∧ q ≤ 1048576) (fun _ i => len - (intOf i).toNat)
            case atStart => exact ⟨0, _, Nat.zero_le _, rfl, rfl, by omega, by omega⟩
            case round =>
              obtain ⟨k, q, hk, rfl, rfl, q0, q1⟩ := hrel
              by_cases hlt : k < len
              · obtain ⟨b, off, s, rfl, hc, hsz, _⟩ := hs.2 k hlt
                clear hs
                by_cases c1 : s.size ≤ 1048576
                · by_cases c2 : q + s.size ≤ 1048576
                  · go_wp2
                    go_round
                    case rel => exact ⟨k + 1, q + s.size, by omega, by go_num, rfl, by omega, by omega⟩
                    case measure => simp [intOf]; omega
                  · go_wp2
                    go_ret
                    exact ⟨⟨_, rfl⟩, rfl⟩
                · go_wp2
                  go_ret
                  exact ⟨⟨_, rfl⟩, rfl⟩
              · go_wp2
                go_ret
                exact ⟨⟨_, rfl⟩, rfl⟩
          · go_enter Trym.func12, Trym.ntmps12
            go_wp2
            go_ret
            exact ⟨⟨_, rfl⟩, rfl⟩
        · go_enter Trym.func12, Trym.ntmps12
          go_wp2
          go_ret
          exact ⟨⟨_, rfl⟩, rfl⟩
      · go_enter Trym.func12, Trym.ntmps12
        go_wp2
        go_ret
        exact ⟨⟨_, rfl⟩, rfl⟩
    · go_enter Trym.func12, Trym.ntmps12
      go_wp2
      go_ret
      exact ⟨⟨_, rfl⟩, rfl⟩
  · go_enter Trym.func12, Trym.ntmps12
    go_wp2
    go_ret
    exact ⟨⟨_, rfl⟩, rfl⟩

set_option maxHeartbeats 400000 in
theorem bytes13 (a : Option Addr) (len cap : Nat) (ss : List ByteArray) (w : World) (hl : len ≤ 9223372036854775807) (hs : Strs w a len ss) :
    Calls Trym.prog 13 #[.slice a len cap] w fun e w' => ∃ t : Int, e = .returned (.int .i64 t) ∧ 0 ≤ t ∧ t ≤ 1048577 ∧ (t ≤ 1048576 → len ≤ 65536) ∧ w' = w := by
  by_cases h1 : len ≤ 65536
  · go_enter Trym.func13, Trym.ntmps13
    go_wp2
    go_loop [3, 4] (fun z i => ∃ (k : Nat) (q : Int), k ≤ len ∧ i = .int .i64 k ∧ z = .int .i64 q ∧ 0 ≤ q ∧ q ≤ 1048576) (fun _ i => len - (intOf i).toNat)
    case atStart => exact ⟨0, _, Nat.zero_le _, rfl, rfl, by omega, by omega⟩
    case round =>
      obtain ⟨k, q, hk, rfl, rfl, q0, q1⟩ := hrel
      by_cases hlt : k < len
      · obtain ⟨b, off, s, rfl, hc, hsz, _⟩ := hs.2 k hlt
        clear hs
        by_cases c1 : s.size ≤ 1048576
        · by_cases c2 : q + s.size ≤ 1048576
          · go_wp2
            go_round
            case rel => exact ⟨k + 1, q + s.size, by omega, by go_num, rfl, by omega, by omega⟩
            case measure => simp [intOf]; omega
          · go_wp2
            go_ret
            exact ⟨1048577, rfl, by omega, by omega, rfl⟩
        · go_wp2
          go_ret
          exact ⟨1048577, rfl, by omega, by omega, rfl⟩
      · go_wp2
        go_ret
        exact ⟨q, rfl, by omega, by omega, rfl⟩
  · go_enter Trym.func13, Trym.ntmps13
    go_wp2
    go_ret
    exact ⟨1048577, rfl, by omega, by omega, fun h => by omega, rfl⟩
end Go.Proofs.Qxb6601160aMods.Nest
