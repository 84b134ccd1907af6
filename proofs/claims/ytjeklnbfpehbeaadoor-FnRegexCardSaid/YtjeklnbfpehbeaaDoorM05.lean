/- How package utf8 cuts a range of runes, in plain numbers. Condition: the range's ends have bytes. -/
import Derived.Test.YtjeklnbfpehbeaaDoorM03
set_option linter.unusedVariables false
/- How package utf8 cuts a range of runes, in plain numbers. Condition: the range's ends have bytes. -/
namespace Go.Proofs.YtjeklnbfpehbeaaDoor

/-- Where a range is cut: the end of its left part, the beginning of its right part. -/
def cut (a b : Nat) : Option (Nat × Nat) :=
  if a < 57344 ∧ 55295 < b then some (55295, 57344)
  else if a ≤ 127 ∧ 127 < b then some (127, 128)
  else if a ≤ 2047 ∧ 2047 < b then some (2047, 2048)
  else if a ≤ 65535 ∧ 65535 < b then some (65535, 65536)
  else if b ≤ 127 then none
  else if a / 64 ≠ b / 64 ∧ a % 64 ≠ 0 then some (64 * (a / 64) + 63, 64 * (a / 64) + 64)
  else if a / 64 ≠ b / 64 ∧ b % 64 ≠ 63 then some (64 * (b / 64) - 1, 64 * (b / 64))
  else if a / 4096 ≠ b / 4096 ∧ a % 4096 ≠ 0 then some (4096 * (a / 4096) + 4095, 4096 * (a / 4096) + 4096)
  else if a / 4096 ≠ b / 4096 ∧ b % 4096 ≠ 4095 then some (4096 * (b / 4096) - 1, 4096 * (b / 4096))
  else if a / 262144 ≠ b / 262144 ∧ a % 262144 ≠ 0 then some (262144 * (a / 262144) + 262143, 262144 * (a / 262144) + 262144)
  else if a / 262144 ≠ b / 262144 ∧ b % 262144 ≠ 262143 then some (262144 * (b / 262144) - 1, 262144 * (b / 262144))
  else none

def okRange (a b : Nat) : Prop := okRune a ∧ okRune b ∧ a ≤ b

set_option maxHeartbeats 4000000 in
theorem cut_ok {a b m n : Nat} (h : okRange a b) (hc : cut a b = some (m, n)) : okRange a m ∧ okRange n b ∧ m < n ∧ n ≤ b ∧ ∀ r, okRune r → (a ≤ r ∧ r ≤ b ↔ (a ≤ r ∧ r ≤ m) ∨ (n ≤ r ∧ r ≤ b)) := by
  unfold okRange okRune at *
  unfold cut at hc
  split at hc
  · injection hc with hc; injection hc with h1 h2; subst h1; subst h2
    refine ⟨by omega, by omega, by omega, by omega, fun r hr => by omega⟩
  split at hc
  · injection hc with hc; injection hc with h1 h2; subst h1; subst h2
    refine ⟨by omega, by omega, by omega, by omega, fun r hr => by omega⟩
  split at hc
  · injection hc with hc; injection hc with h1 h2; subst h1; subst h2
    refine ⟨by omega, by omega, by omega, by omega, fun r hr => by omega⟩
  split at hc
  · injection hc with hc; injection hc with h1 h2; subst h1; subst h2
    refine ⟨by omega, by omega, by omega, by omega, fun r hr => by omega⟩
  split at hc
  · cases hc
  split at hc
  · injection hc with hc; injection hc with h1 h2; subst h1; subst h2
    refine ⟨by omega, by omega, by omega, by omega, fun r hr => by omega⟩
  split at hc
  · injection hc with hc; injection hc with h1 h2; subst h1; subst h2
    refine ⟨by omega, by omega, by omega, by omega, fun r hr => by omega⟩
  split at hc
  · injection hc with hc; injection hc with h1 h2; subst h1; subst h2
    refine ⟨by omega, by omega, by omega, by omega, fun r hr => by omega⟩
  split at hc
  · injection hc with hc; injection hc with h1 h2; subst h1; subst h2
    refine ⟨by omega, by omega, by omega, by omega, fun r hr => by omega⟩
  split at hc
  · injection hc with hc; injection hc with h1 h2; subst h1; subst h2
    refine ⟨by omega, by omega, by omega, by omega, fun r hr => by omega⟩
  split at hc
  · injection hc with hc; injection hc with h1 h2; subst h1; subst h2
    refine ⟨by omega, by omega, by omega, by omega, fun r hr => by omega⟩
  · cases hc
end Go.Proofs.YtjeklnbfpehbeaaDoor
