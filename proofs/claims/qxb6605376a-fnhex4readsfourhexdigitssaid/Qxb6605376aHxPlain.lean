/-
  PLAIN MATHEMATICS of hexadecimal digits.
-/
namespace Go.Proofs.Qxb6605376a.Plain
set_option linter.unusedVariables false

/-- The value of a hexadecimal digit, either case; -1 of any other byte. -/
def hv (c : Int) : Int := if 48 ≤ c ∧ c ≤ 57 then c - 48 else if 97 ≤ c ∧ c ≤ 102 then c - 87 else if 65 ≤ c ∧ c ≤ 70 then c - 55 else -1

theorem hv_le (c : Int) : -1 ≤ hv c ∧ hv c ≤ 15 := by
  unfold hv
  split
  · omega
  · split
    · omega
    · split <;> omega

theorem hv_cases (c : Int) (h : 0 ≤ hv c) : (48 ≤ c ∧ c ≤ 57 ∧ hv c = c - 48) ∨ (97 ≤ c ∧ c ≤ 102 ∧ hv c = c - 87) ∨ (65 ≤ c ∧ c ≤ 70 ∧ hv c = c - 55) := by
  unfold hv at *
  split at h
  · rename_i h1; left; rw [if_pos h1]; omega
  · rename_i h1
    split at h
    · rename_i h2; right; left; rw [if_neg h1, if_pos h2]; omega
    · rename_i h2
      split at h
      · rename_i h3; right; right; rw [if_neg h1, if_neg h2, if_pos h3]; omega
      · omega

/-- The number that the first k of four digits write. -/
def val (c : Nat → Int) : Nat → Int
  | 0 => 0
  | k + 1 => val c k * 16 + hv (c k)

theorem val_bounds (c : Nat → Int) (h : ∀ i, i < 4 → 0 ≤ hv (c i)) : ∀ k, k ≤ 4 → 0 ≤ val c k ∧ val c k < 16 ^ k
  | 0, _ => by simp [val]
  | k + 1, hk => by
    have ih := val_bounds c h k (by omega)
    have h1 := h k (by omega)
    have h2 := hv_le (c k)
    rw [val, Int.pow_succ]
    omega

theorem val_small (c : Nat → Int) (h : ∀ i, i < 4 → 0 ≤ hv (c i)) (k : Nat) (hk : k ≤ 3) : 0 ≤ val c k ∧ val c k ≤ 4095 := by
  have hb := val_bounds c h k (by omega)
  have : (16 : Int) ^ k ≤ 16 ^ 3 := by
    match k, hk with
    | 0, _ => decide
    | 1, _ => decide
    | 2, _ => decide
    | 3, _ => decide
  omega

end Go.Proofs.Qxb6605376a.Plain
