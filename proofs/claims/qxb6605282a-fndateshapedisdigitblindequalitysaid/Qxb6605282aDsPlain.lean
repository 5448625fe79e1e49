namespace Go.Proofs.Qxb6605282a.Plain

/-- A digit reads as '0'; any other byte as itself. -/
def nz (c : UInt8) : UInt8 := if 48 ≤ c.toNat ∧ c.toNat ≤ 57 then 48 else c

/-- The two texts are one, digits blind. -/
def shaped (t l : ByteArray) : Bool := decide (t.data.toList.map nz = l.data.toList.map nz)

theorem shaped_refl (a : ByteArray) : shaped a a = true := by simp [shaped]
theorem shaped_comm (a b : ByteArray) : shaped a b = shaped b a := by
  unfold shaped
  exact decide_eq_decide.2 ⟨Eq.symm, Eq.symm⟩
theorem shaped_trans (a b c : ByteArray) (h : shaped a b = true) (k : shaped b c = true) : shaped a c = true := by
  unfold shaped at *
  simp only [decide_eq_true_eq] at *
  exact h.trans k

theorem shaped_size (t l : ByteArray) (h : t.size ≠ l.size) : shaped t l = false := by
  unfold shaped
  rw [decide_eq_false_iff_not]
  intro e
  have := congrArg List.length e
  simp at this
  exact h this

theorem getD_byte (s : ByteArray) (k : Nat) (h : k < s.size) : (s.data.toList.map nz)[k]? = some (nz s[k]) := by
  have h' : k < s.data.size := h
  rw [List.getElem?_map]
  rw [show s.data.toList[k]? = some s.data[k] by simp]
  rfl

theorem shaped_at (t l : ByteArray) (k : Nat) (h1 : k < t.size) (h2 : k < l.size) (h : nz t[k] ≠ nz l[k]) : shaped t l = false := by
  unfold shaped
  rw [decide_eq_false_iff_not]
  intro e
  have := congrArg (·[k]?) e
  simp only [getD_byte t k h1, getD_byte l k h2, Option.some.injEq] at this
  exact h this

theorem shaped_all (t l : ByteArray) (hs : t.size = l.size) (h : ∀ j, (h1 : j < t.size) → (h2 : j < l.size) → nz t[j] = nz l[j]) : shaped t l = true := by
  unfold shaped
  rw [decide_eq_true_eq]
  apply List.ext_getElem?
  intro i
  by_cases hi : i < t.size
  · rw [getD_byte t i hi, getD_byte l i (by omega), h i hi (by omega)]
  · rw [List.getElem?_eq_none (by simp; omega), List.getElem?_eq_none (by simp; omega)]

theorem nz_digit (a b : UInt8) (h1 : 48 ≤ (a.toNat : Int)) (h2 : (a.toNat : Int) ≤ 57) (h3 : 48 ≤ (b.toNat : Int)) (h4 : (b.toNat : Int) ≤ 57) : nz a = nz b := by
  unfold nz
  rw [if_pos ⟨by omega, by omega⟩, if_pos ⟨by omega, by omega⟩]
theorem nz_out (a b : UInt8) (h : ¬ (48 ≤ (a.toNat : Int) ∧ (a.toNat : Int) ≤ 57)) (h3 : 48 ≤ (b.toNat : Int)) (h4 : (b.toNat : Int) ≤ 57) : nz a ≠ nz b := by
  unfold nz
  rw [if_neg (by omega), if_pos ⟨by omega, by omega⟩]
  intro e
  rw [e] at h
  exact h (by decide)
theorem nz_other (a b : UInt8) (h : ¬ (48 ≤ (b.toNat : Int) ∧ (b.toNat : Int) ≤ 57)) (hab : (a.toNat : Int) ≠ (b.toNat : Int)) : nz a ≠ nz b := by
  unfold nz
  rw [if_neg (c := 48 ≤ b.toNat ∧ b.toNat ≤ 57) (by omega)]
  split
  · intro e
    rw [← e] at h
    exact h (by decide)
  · intro e
    rw [e] at hab
    exact hab rfl
theorem nz_same (a b : UInt8) (hab : (a.toNat : Int) = (b.toNat : Int)) : nz a = nz b := by
  have : a = b := UInt8.toNat_inj.1 (by omega)
  rw [this]

end Go.Proofs.Qxb6605282a.Plain
