/-
  PLAIN MATHEMATICS of JSON white space: where 'space' lands.
-/
namespace Go.Proofs.Qxb6605376a.SpP
set_option linter.unusedVariables false

def sp (c : Int) : Bool := c == 32 || c == 9 || c == 10 || c == 13

/-- How many white space bytes a list opens with. -/
def skip : List Int → Nat
  | [] => 0
  | c :: r => if sp c then 1 + skip r else 0

/-- Where the scanner lands from i. -/
def land (zs : List Int) (i : Nat) : Nat := i + skip (zs.drop i)

theorem land_out (zs : List Int) (i : Nat) (h : zs.length ≤ i) : land zs i = i := by
  unfold land
  rw [List.drop_eq_nil_of_le h]
  rfl

theorem drop_cons (zs : List Int) (i : Nat) (h : i < zs.length) : zs.drop i = zs.getD i 0 :: zs.drop (i + 1) := by
  rw [List.drop_eq_getElem_cons h]
  simp [List.getD_eq_getElem?_getD, List.getElem?_eq_getElem h]

theorem skip_yes (c : Int) (r : List Int) (h : sp c = true) : skip (c :: r) = 1 + skip r := by rw [skip, if_pos h]
theorem skip_no (c : Int) (r : List Int) (h : sp c = false) : skip (c :: r) = 0 := by rw [skip, if_neg (by simp [h])]

theorem land_stop (zs : List Int) (i : Nat) (h : i < zs.length) (hs : sp (zs.getD i 0) = false) : land zs i = i := by
  unfold land
  rw [drop_cons zs i h, skip_no _ _ hs]
  rfl

theorem land_go (zs : List Int) (i : Nat) (h : i < zs.length) (hs : sp (zs.getD i 0) = true) : land zs i = land zs (i + 1) := by
  unfold land
  rw [drop_cons zs i h, skip_yes _ _ hs]
  omega

theorem skip_le (zs : List Int) : skip zs ≤ zs.length := by
  induction zs with
  | nil => simp [skip]
  | cons c r ih =>
    unfold skip
    split
    · simp; omega
    · simp

theorem land_ge (zs : List Int) (i : Nat) : i ≤ land zs i := by unfold land; omega
theorem land_le (zs : List Int) (i : Nat) (h : i ≤ zs.length) : land zs i ≤ zs.length := by
  unfold land
  have := skip_le (zs.drop i)
  rw [List.length_drop] at this
  omega

theorem skip_passed (zs : List Int) : ∀ j, j < skip zs → sp (zs.getD j 0) = true := by
  induction zs with
  | nil => intro j h; simp [skip] at h
  | cons c r ih =>
    intro j h
    unfold skip at h
    split at h
    · rename_i hc
      cases j with
      | zero => simpa using hc
      | succ j => simpa using ih j (by omega)
    · omega

theorem getD_drop (zs : List Int) (i j : Nat) : (zs.drop i).getD j 0 = zs.getD (i + j) 0 := by
  simp [List.getD_eq_getElem?_getD, List.getElem?_drop]

theorem land_passed (zs : List Int) (i k : Nat) (h1 : i ≤ k) (h2 : k < land zs i) : sp (zs.getD k 0) = true := by
  unfold land at h2
  have h := skip_passed (zs.drop i) (k - i) (by omega)
  rw [getD_drop, show i + (k - i) = k by omega] at h
  exact h

theorem skip_at (zs : List Int) (h : skip zs < zs.length) : sp (zs.getD (skip zs) 0) = false := by
  induction zs with
  | nil => simp at h
  | cons c r ih =>
    cases hc : sp c
    · rw [skip_no _ _ hc]
      simpa using hc
    · rw [skip_yes _ _ hc] at h ⊢
      have := ih (by simp at h; omega)
      rw [show 1 + skip r = skip r + 1 by omega]
      simpa using this

theorem land_at (zs : List Int) (i : Nat) (h : i ≤ zs.length) (hl : land zs i < zs.length) : sp (zs.getD (land zs i) 0) = false := by
  unfold land at *
  have h2 := skip_at (zs.drop i) (by rw [List.length_drop]; omega)
  rw [getD_drop] at h2
  exact h2

theorem land_land (zs : List Int) (i : Nat) (h : i ≤ zs.length) : land zs (land zs i) = land zs i := by
  by_cases hl : land zs i < zs.length
  · exact land_stop zs _ hl (land_at zs i h hl)
  · exact land_out zs _ (by omega)

end Go.Proofs.Qxb6605376a.SpP
