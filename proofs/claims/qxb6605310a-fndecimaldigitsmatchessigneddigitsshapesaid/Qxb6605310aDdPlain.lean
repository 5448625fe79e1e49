/-
  PLAIN MATHEMATICS for 'FnDecimalDigitsMatchesSignedDigitsShape': the four-state automaton and the direct test agree.
-/
namespace Go.Proofs.Qxb6605310a.Plain
set_option linter.unusedVariables false

def dig (c : UInt8) : Bool := decide (48 ≤ c.toNat ∧ c.toNat ≤ 57)
def sgn (c : UInt8) : Bool := decide (c.toNat = 43 ∨ c.toNat = 45)

/-- The automaton's step: 0 start, 1 behind a sign, 2 in digits, 3 dead. -/
def step (st : Nat) (c : UInt8) : Nat := if st = 3 then 3 else if dig c then 2 else if sgn c ∧ st = 0 then 1 else 3
def run (l : List UInt8) : Nat := l.foldl step 0

/-- The text behind one sign. -/
def cut : List UInt8 → List UInt8
  | [] => []
  | c :: r => if sgn c then r else c :: r
def body (l : List UInt8) : Bool := l.all dig && !l.isEmpty
def dd (l : List UInt8) : Bool := body (cut l)

theorem step_le (st : Nat) (c : UInt8) : step st c ≤ 3 := by
  unfold step
  split
  · omega
  · split
    · omega
    · split <;> omega

theorem run_snoc (l : List UInt8) (c : UInt8) : run (l ++ [c]) = step (run l) c := by simp [run]

theorem run_le (l : List UInt8) : run l ≤ 3 := by
  rcases List.eq_nil_or_concat l with rfl | ⟨r, c, rfl⟩
  · simp [run]
  · rw [List.concat_eq_append, run_snoc]; exact step_le _ _

theorem from3 (l : List UInt8) : l.foldl step 3 = 3 := by
  induction l with
  | nil => rfl
  | cons c r ih => rw [List.foldl_cons]; simpa [step] using ih

theorem from2 (l : List UInt8) : (l.foldl step 2 == 2) = l.all dig := by
  induction l with
  | nil => rfl
  | cons c r ih =>
    rw [List.foldl_cons, List.all_cons]
    by_cases h : dig c = true
    · rw [show step 2 c = 2 by simp [step, h], ih, h, Bool.true_and]
    · rw [show step 2 c = 3 by simp [step, h], from3]
      simp [h]

theorem from1 (l : List UInt8) : (l.foldl step 1 == 2) = body l := by
  cases l with
  | nil => rfl
  | cons c r =>
    rw [List.foldl_cons]
    by_cases h : dig c = true
    · rw [show step 1 c = 2 by simp [step, h], from2]
      simp [body, h]
    · rw [show step 1 c = 3 by simp [step, h], from3]
      simp [body, h]

theorem sgn_not_dig (c : UInt8) (h : sgn c = true) : dig c = false := by
  simp [sgn, dig] at *
  omega

theorem law (l : List UInt8) : dd l = (run l == 2) := by
  unfold run dd
  cases l with
  | nil => rfl
  | cons c r =>
    rw [List.foldl_cons]
    by_cases hs : sgn c = true
    · have hd := sgn_not_dig c hs
      rw [show step 0 c = 1 by simp [step, hs, hd], from1]
      simp [cut, hs]
    · by_cases h : dig c = true
      · rw [show step 0 c = 2 by simp [step, h], from2]
        simp [cut, hs, body, h]
      · rw [show step 0 c = 3 by simp [step, h, hs], from3]
        simp [cut, hs, body, h]

theorem take_snoc (s : ByteArray) (k : Nat) (h : k < s.size) : s.data.toList.take (k + 1) = s.data.toList.take k ++ [s[k]] := by
  rw [List.take_succ_eq_append_getElem (by simpa using h)]; rfl

theorem run_take (s : ByteArray) (k : Nat) (h : k < s.size) : run (s.data.toList.take (k + 1)) = step (run (s.data.toList.take k)) s[k] := by
  rw [take_snoc s k h, run_snoc]

theorem body_stop (s : ByteArray) (k : Nat) (h : k < s.size) (hb : dig s[k] = false) : body s.data.toList = false := by
  have : (s.data.toList.all dig) = false := by
    rw [List.all_eq_false]
    refine ⟨s[k], ?_, by simp [hb]⟩
    exact List.getElem_mem (l := s.data.toList) (n := k) (by simpa using h)
  simp [body, this]

theorem body_all (s : ByteArray) (h : ∀ j, (hj : j < s.size) → dig s[j] = true) : body s.data.toList = !s.data.toList.isEmpty := by
  have : (s.data.toList.all dig) = true := by
    rw [List.all_eq_true]
    intro x hx
    obtain ⟨j, hj, rfl⟩ := List.getElem_of_mem hx
    exact h j (by simpa using hj)
  simp [body, this]


/-! The step in the forms in which the walk leaves its tests. -/
theorem step_stay (n : Nat) (c : UInt8) (h : ((n : Int) == 3) = true) : n = step n c := by
  have : n = 3 := by simp at h; omega
  subst this; rfl
theorem step_dig (n : Nat) (c : UInt8) (h : ((n : Int) == 3) = false) (h1 : 48 ≤ (c.toNat : Int)) (h2 : (c.toNat : Int) ≤ 57) : 2 = step n c := by
  have : ¬ n = 3 := by simp at h; omega
  have hd : dig c = true := decide_eq_true ⟨by omega, by omega⟩
  simp [step, this, hd]
theorem step_hi (n : Nat) (c : UInt8) (h : ((n : Int) == 3) = false) (h1 : 57 < (c.toNat : Int)) : 3 = step n c := by
  have hd : dig c = false := decide_eq_false (by omega)
  have hs : sgn c = false := decide_eq_false (by omega)
  simp [step, hd, hs]
theorem step_sign (n : Nat) (c : UInt8) (h : ((n : Int) == 3) = false) (h0 : ((n : Int) == 0) = true) (hc : (c.toNat : Int) = 43 ∨ (c.toNat : Int) = 45) : 1 = step n c := by
  have : n = 0 := by simp at h0; omega
  have hd : dig c = false := decide_eq_false (by omega)
  have hs : sgn c = true := decide_eq_true (by omega)
  simp [step, this, hd, hs]
theorem step_late (n : Nat) (c : UInt8) (h : ((n : Int) == 3) = false) (h0 : ((n : Int) == 0) = false) (hc : (c.toNat : Int) = 43 ∨ (c.toNat : Int) = 45) : 3 = step n c := by
  have : ¬ n = 0 := by simp at h0; omega
  have hd : dig c = false := decide_eq_false (by omega)
  simp [step, this, hd]
theorem step_lo (n : Nat) (c : UInt8) (h : ((n : Int) == 3) = false) (h1 : ¬ 48 ≤ (c.toNat : Int)) (h2 : ¬ (c.toNat : Int) = 43) (h3 : ¬ (c.toNat : Int) = 45) : 3 = step n c := by
  have hd : dig c = false := decide_eq_false (by omega)
  have hs : sgn c = false := decide_eq_false (by omega)
  simp [step, hd, hs]

end Go.Proofs.Qxb6605310a.Plain
