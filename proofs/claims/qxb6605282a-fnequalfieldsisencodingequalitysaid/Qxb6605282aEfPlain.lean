/-
  PLAIN MATHEMATICS for 'FnEqualFieldsIsEncodingEquality': the length-prefixed encoding of a list of texts, and that it is one to one.
-/
namespace Go.Proofs.Qxb6605282a.Enc

/-- The decimal digits of n, the greatest first, none for 0; f bounds their number. -/
def digs : Nat → Nat → List UInt8
  | 0, _ => []
  | f + 1, n => if n = 0 then [] else digs f (n / 10) ++ [UInt8.ofNat (48 + n % 10)]

/-- What 'appendDecimal' appends, for n < 10^8. -/
def dec (n : Nat) : List UInt8 := if n = 0 then [48] else digs 8 n

def bts (s : ByteArray) : List UInt8 := s.data.toList

def enc1 (s : ByteArray) : List UInt8 := dec s.size ++ 58 :: bts s

def enc : List ByteArray → List UInt8
  | [] => []
  | s :: ss => enc1 s ++ enc ss

def total : List ByteArray → Nat
  | [] => 0
  | s :: ss => s.size + total ss

theorem digs_zero (f : Nat) : digs f 0 = [] := by cases f <;> simp [digs]

theorem digs_len (f n : Nat) : (digs f n).length ≤ f := by
  induction f generalizing n with
  | zero => simp [digs]
  | succ f ih =>
    unfold digs
    split
    · simp
    · simp; exact ih _

theorem dec_len (n : Nat) : (dec n).length ≤ 8 := by
  unfold dec
  split
  · simp
  · exact digs_len 8 n

/-- The number that digits write. -/
def val (l : List UInt8) : Nat := l.foldl (fun v c => v * 10 + (c.toNat - 48)) 0

theorem val_snoc (l : List UInt8) (c : UInt8) : val (l ++ [c]) = val l * 10 + (c.toNat - 48) := by simp [val]

theorem digit_toNat (d : Nat) (h : d < 10) : (UInt8.ofNat (48 + d)).toNat = 48 + d := by
  rw [UInt8.toNat_ofNat']
  omega

theorem val_digs (f n : Nat) (h : n < 10 ^ f) : val (digs f n) = n := by
  induction f generalizing n with
  | zero => simp at h; subst h; rfl
  | succ f ih =>
    unfold digs
    split
    · subst n; rfl
    · rw [val_snoc, ih (n / 10) (by rw [Nat.pow_succ] at h; omega), digit_toNat _ (by omega)]
      omega

theorem val_dec (n : Nat) (h : n < 10 ^ 8) : val (dec n) = n := by
  unfold dec
  split
  · subst n; rfl
  · exact val_digs 8 n h

theorem digs_no_colon (f n : Nat) : ∀ c ∈ digs f n, c ≠ 58 := by
  induction f generalizing n with
  | zero => simp [digs]
  | succ f ih =>
    unfold digs
    split
    · simp
    · intro c hc
      rw [List.mem_append] at hc
      rcases hc with hc | hc
      · exact ih _ c hc
      · rw [List.mem_singleton] at hc
        subst hc
        intro e
        have := congrArg UInt8.toNat e
        rw [digit_toNat _ (by omega)] at this
        have e58 : (58 : UInt8).toNat = 58 := rfl
        omega

theorem dec_no_colon (n : Nat) : ∀ c ∈ dec n, c ≠ 58 := by
  unfold dec
  split
  · simp
  · exact digs_no_colon 8 n

theorem split_colon (x y p q : List UInt8) (hx : ∀ c ∈ x, c ≠ 58) (hy : ∀ c ∈ y, c ≠ 58) (h : x ++ 58 :: p = y ++ 58 :: q) : x = y ∧ p = q := by
  induction x generalizing y with
  | nil =>
    cases y with
    | nil => simpa using h
    | cons b y =>
      simp at h
      exact absurd h.1.symm (hy b (by simp))
  | cons a x ih =>
    cases y with
    | nil =>
      simp at h
      exact absurd h.1 (hx a (by simp))
    | cons b y =>
      simp at h
      obtain ⟨rfl, h⟩ := h
      have := ih y (fun c hc => hx c (by simp [hc])) (fun c hc => hy c (by simp [hc])) h
      exact ⟨by rw [this.1], this.2⟩

theorem bytes_len (s : ByteArray) : (bts s).length = s.size := by simp [bts]

theorem bytes_inj {a b : ByteArray} (h : bts a = bts b) : a = b := by
  cases a; cases b
  simp [bts] at h
  rw [h]

theorem enc_inj : ∀ (ss tt : List ByteArray), (∀ s ∈ ss, s.size < 10 ^ 8) → (∀ s ∈ tt, s.size < 10 ^ 8) → enc ss = enc tt → ss = tt
  | [], [], _, _, _ => rfl
  | [], t :: tt, _, _, h => by
    have := congrArg List.length h
    simp [enc, enc1] at this
  | s :: ss, [], _, _, h => by
    have := congrArg List.length h
    simp [enc, enc1] at this
  | s :: ss, t :: tt, h1, h2, h => by
    simp only [enc, enc1, List.append_assoc, List.cons_append] at h
    obtain ⟨e1, e2⟩ := split_colon _ _ _ _ (dec_no_colon _) (dec_no_colon _) h
    have en : s.size = t.size := by
      have a := val_dec s.size (h1 s (by simp))
      have b := val_dec t.size (h2 t (by simp))
      rw [e1] at a
      omega
    obtain ⟨e3, e4⟩ := List.append_inj e2 (by rw [bytes_len, bytes_len, en])
    rw [bytes_inj e3, enc_inj ss tt (fun x hx => h1 x (by simp [hx])) (fun x hx => h2 x (by simp [hx])) e4]

/-- The law, as Bools. -/
theorem law (ss tt : List ByteArray) (h1 : ∀ s ∈ ss, s.size < 10 ^ 8) (h2 : ∀ s ∈ tt, s.size < 10 ^ 8) : decide (ss = tt) = (enc ss == enc tt) := by
  rw [Bool.eq_iff_iff]
  simp
  exact ⟨fun h => by rw [h], enc_inj ss tt h1 h2⟩

theorem enc_snoc (ss : List ByteArray) (s : ByteArray) : enc (ss ++ [s]) = enc ss ++ enc1 s := by
  induction ss with
  | nil => simp [enc]
  | cons a ss ih => simp [enc, ih]

theorem total_snoc (ss : List ByteArray) (s : ByteArray) : total (ss ++ [s]) = total ss + s.size := by
  induction ss with
  | nil => simp [total]
  | cons a ss ih => simp [total, ih]; omega

theorem enc_len (ss : List ByteArray) : (enc ss).length ≤ 9 * ss.length + total ss := by
  induction ss with
  | nil => simp [enc, total]
  | cons s ss ih =>
    have := dec_len s.size
    have := bytes_len s
    simp [enc, enc1, total] at *
    omega

theorem total_take_le (ss : List ByteArray) (k : Nat) : total (ss.take k) ≤ total ss := by
  induction ss generalizing k with
  | nil => simp [total]
  | cons s ss ih =>
    cases k with
    | zero => simp [total]
    | succ k => simp [total]; exact ih k

theorem take_snoc (ss : List ByteArray) (k : Nat) (h : k < ss.length) : ss.take (k + 1) = ss.take k ++ [ss.getD k ByteArray.empty] := by
  rw [List.take_succ_eq_append_getElem h]
  simp [List.getD_eq_getElem?_getD, List.getElem?_eq_getElem h]

theorem total_step (ss : List ByteArray) (k : Nat) (h : k < ss.length) : total (ss.take (k + 1)) = total (ss.take k) + (ss.getD k ByteArray.empty).size := by
  rw [take_snoc ss k h, total_snoc]

theorem size_le_total (ss : List ByteArray) : ∀ s ∈ ss, s.size ≤ total ss := by
  induction ss with
  | nil => simp
  | cons a ss ih =>
    intro s hs
    simp [total] at *
    rcases hs with rfl | hs
    · omega
    · have := ih s hs; omega

end Go.Proofs.Qxb6605282a.Enc
