/-
  THE WALKS of the functions that only read the two lists of texts: fieldsBytes (20), equalFields (25), ZZEqualFields (21), the guard zzBytes (19).
-/
import Derived.Test.Qxb6605282aProg
import Derived.Test.Qxb6605282aEfPlain
import Derived.WalkKit
import Derived.WalkSpells
import Derived.WalkLawsBesides
import Derived.Outline
namespace Go.Proofs.Qxb6605282a.Ef
open Go.RowKit
open Go.Proofs.Qxb6605282a.Enc
set_option linter.unusedVariables false

/-- A slice of texts as it lies in memory: where there is an element, the address is plain, and the cell holds it. -/
def View (w : World) (a : Option Addr) (ss : List ByteArray) : Prop :=
  ∀ i, i < ss.length → ∃ b off, a = some ⟨b, off, none⟩ ∧ w.cell? ⟨b, off + i, none⟩ = some (.string (ss.getD i ByteArray.empty))

theorem ret_bool {a b : Bool} (h : a = b) : Ending.returned (.bool a) = .returned (.bool b) := by rw [h]

set_option maxHeartbeats 400000 in
theorem fb_any (a : Option Addr) (c : Nat) (ss : List ByteArray) (w : World) (hv : View w a ss) (hn : ss.length + total ss ≤ 1048576) :
    Calls Try.prog 20 #[.slice a ss.length c] w fun e w' => ∃ r : Int, e = .returned (.int .i64 r) ∧ w' = w ∧ 0 ≤ r ∧ r ≤ 16 * ss.length + total ss ∧ (r ≤ 2097152 → r = 16 * ss.length + total ss) := by
  go_enter Try.func20, Try.ntmps20
  go_wp2
  go_loop [3, 4] (fun n i => ∃ (k : Nat) (r : Int), k ≤ ss.length ∧ i = .int .i64 k ∧ n = .int .i64 r ∧ r ≤ 20000000 ∧ 0 ≤ r ∧ Hid (r = 16 * ss.length + total (ss.take k))) (fun _ i => ss.length - (intOf i).toNat)
  case atStart => exact ⟨0, _, Nat.zero_le _, rfl, rfl, by omega, by omega, show _ = _ by simp [total]⟩
  case round =>
    obtain ⟨k, r, hk, rfl, rfl, hr1, hr0, hr⟩ := hrel
    by_cases hlt : k < ss.length
    · obtain ⟨b, off, rfl, hc⟩ := hv k hlt
      have hst := total_step ss k hlt
      have hle := total_take_le ss (k + 1)
      obtain ⟨s, hs⟩ : ∃ s, s = ss.getD k ByteArray.empty := ⟨_, rfl⟩
      rw [← hs] at hc hst
      have HS : Hid (total (ss.take (k + 1)) = total (ss.take k) + s.size) := hst
      have hb : s.size ≤ 1048576 := by omega
      have hb2 : r + s.size ≤ 20000000 := by have := hr.out; omega
      have HLE : Hid (total (ss.take (k + 1)) ≤ total ss) := hle
      clear hs hst hv hle
      by_cases hq : 2097152 < r + s.size
      · go_wp2
        go_ret
        exact ⟨r + s.size, rfl, rfl, by omega, by have := hr.out; have := HS.out; have := HLE.out; omega, fun h => absurd h (by omega)⟩
      · go_wp2
        go_round
        case rel => exact ⟨k + 1, r + s.size, by omega, by go_num, rfl, hb2, by omega, show _ = _ by have := hr.out; have := HS.out; omega⟩
        case measure => simp [intOf]; omega
    · go_wp2
      go_ret
      have h := hr.out
      rw [List.take_of_length_le (by omega)] at h
      exact ⟨r, rfl, rfl, hr0, by omega, fun _ => h⟩

/-- The first k texts of the two lists are the same. -/
def Same (ss tt : List ByteArray) (k : Nat) : Prop := ss.take k = tt.take k

theorem same_step (ss tt : List ByteArray) (k : Nat) (h1 : k < ss.length) (h2 : k < tt.length) (h : Same ss tt k) (he : ss.getD k ByteArray.empty = tt.getD k ByteArray.empty) : Same ss tt (k + 1) := by
  unfold Same at *
  rw [take_snoc ss k h1, take_snoc tt k h2, h, he]

theorem not_same (ss tt : List ByteArray) (k : Nat) (he : ss.getD k ByteArray.empty ≠ tt.getD k ByteArray.empty) : decide (ss = tt) = false := by
  rw [decide_eq_false_iff_not]
  rintro rfl
  exact he rfl

theorem toList_ne {s t : ByteArray} : (s.toList == t.toList) = decide (s = t) := by
  rw [Bool.eq_iff_iff]
  simp only [beq_iff_eq, decide_eq_true_eq]
  constructor
  · intro h
    rw [ByteArray.toList_eq, ByteArray.toList_eq] at h
    exact bytes_inj h
  · rintro rfl; rfl

set_option maxHeartbeats 400000 in
theorem ef_any (a0 a1 : Option Addr) (c0 c1 : Nat) (ss tt : List ByteArray) (w : World) (h0 : View w a0 ss) (h1 : View w a1 tt) (b0 : ss.length ≤ 1048576) (b1 : tt.length ≤ 1048576) :
    Calls Try.prog 25 #[.slice a0 ss.length c0, .slice a1 tt.length c1] w fun e w' => e = .returned (.bool (decide (ss = tt))) ∧ w' = w := by
  by_cases hl : (ss.length : Int) = tt.length
  · go_enter Try.func25, Try.ntmps25
    go_wp2
    go_loop [14] (fun i => ∃ k : Nat, k ≤ tt.length ∧ i = .int .i64 k ∧ Same ss tt k) (fun i => tt.length - (intOf i).toNat)
    case atStart => exact ⟨0, Nat.zero_le _, rfl, rfl⟩
    case round =>
      obtain ⟨k, hk, rfl, hs⟩ := hrel
      by_cases hlt : k < tt.length
      · have hlt' : k < ss.length := by omega
        obtain ⟨p0, o0, rfl, hc0⟩ := h0 k hlt'
        obtain ⟨p1, o1, rfl, hc1⟩ := h1 k hlt
        have hst := same_step ss tt k hlt' hlt hs
        have hns := not_same ss tt k
        obtain ⟨s, es⟩ : ∃ s, s = ss.getD k ByteArray.empty := ⟨_, rfl⟩
        obtain ⟨t, et⟩ : ∃ t, t = tt.getD k ByteArray.empty := ⟨_, rfl⟩
        rw [← es] at hc0 hst hns
        rw [← et] at hc1 hst hns
        have HT : Hid (s = t → Same ss tt (k + 1)) := hst
        have HN : Hid (s ≠ t → decide (ss = tt) = false) := hns
        clear hst hns es et h0 h1 hs
        by_cases he : s = t
        · have HE := HT.out he
          subst he
          clear HT HN
          go_wp2
          go_round
          case rel => exact ⟨k + 1, by omega, by go_num, HE⟩
          case measure => simp [intOf]; omega
        · have HZ : Hid (decide (ss = tt) = false) := HN.out he
          have hb : (s.toList == t.toList) = false := by rw [toList_ne]; simpa using he
          clear HT HN he
          go_wp2
          go_ret
          exact ⟨ret_bool HZ.out.symm, rfl⟩
      · have hz : decide (ss = tt) = true := by
          unfold Same at hs
          rw [List.take_of_length_le (by omega), List.take_of_length_le (by omega)] at hs
          simpa using hs
        have HZ : Hid (decide (ss = tt) = true) := hz
        clear hz hs
        go_wp2
        go_ret
        exact ⟨ret_bool HZ.out.symm, rfl⟩
  · have hz : decide (ss = tt) = false := by
      rw [decide_eq_false_iff_not]
      rintro rfl
      exact hl rfl
    have HZ : Hid (decide (ss = tt) = false) := hz
    clear hz
    go_enter Try.func25, Try.ntmps25
    go_wp2
    go_ret
    exact ⟨ret_bool HZ.out.symm, rfl⟩

theorem zef_any (a0 a1 : Option Addr) (c0 c1 : Nat) (ss tt : List ByteArray) (w : World) (h0 : View w a0 ss) (h1 : View w a1 tt) (b0 : ss.length ≤ 1048576) (b1 : tt.length ≤ 1048576) :
    Calls Try.prog 21 #[.slice a0 ss.length c0, .slice a1 tt.length c1] w fun e w' => e = .returned (.bool (decide (ss = tt))) ∧ w' = w := by
  obtain ⟨r, hr⟩ : ∃ r, r = decide (ss = tt) := ⟨_, rfl⟩
  have hc := ef_any a0 a1 c0 c1 ss tt w h0 h1 b0 b1
  rw [← hr] at hc ⊢
  clear hr h0 h1
  have HC : Hid (Calls Try.prog 25 #[.slice a0 ss.length c0, .slice a1 tt.length c1] w fun e w' => e = .returned (.bool r) ∧ w' = w) := hc
  clear hc
  go_enter Try.func21, Try.ntmps21
  go_wp2_with fail
  refine HC.out.mono ?_
  rintro e w' ⟨rfl, rfl⟩
  go_wp2
  go_ret
  exact ⟨rfl, rfl⟩

/-- What the guard answers: where it says yes, the lengths of all slices and texts sum to at most 1 MiB. -/
def GuardPost (ss tt : List ByteArray) (w : World) (e : Ending) (w' : World) : Prop :=
  ∃ r : Bool, e = .returned (.bool r) ∧ w' = w ∧ (r = true → ss.length + total ss + (tt.length + total tt) ≤ 1048576)
theorem guard_no {ss tt : List ByteArray} {w : World} {e : Ending} {w' : World} (he : e = .returned (.bool false)) (hw : w' = w) : GuardPost ss tt w e w' := ⟨false, he, hw, fun h => by cases h⟩
theorem guard_yes {ss tt : List ByteArray} {w : World} {e : Ending} {w' : World} (h : ss.length + total ss + (tt.length + total tt) ≤ 1048576) (he : e = .returned (.bool true)) (hw : w' = w) : GuardPost ss tt w e w' := ⟨true, he, hw, fun _ => h⟩

set_option maxHeartbeats 800000 in
theorem guard_any (a0 a1 : Option Addr) (c0 c1 : Nat) (ss tt : List ByteArray) (w : World) (h0 : View w a0 ss) (h1 : View w a1 tt) (b0 : ss.length ≤ maxLen) (b1 : tt.length ≤ maxLen)
    (s0 : ∀ s ∈ ss, s.size ≤ maxLen) (s1 : ∀ s ∈ tt, s.size ≤ maxLen) :
    Calls Try.prog 19 #[.slice a0 ss.length c0, .slice a1 tt.length c1] w (GuardPost ss tt w) := by
  unfold maxLen at b0 b1
  have S0 : Hid (∀ s ∈ ss, s.size ≤ maxLen) := s0
  have S1 : Hid (∀ s ∈ tt, s.size ≤ maxLen) := s1
  clear s0 s1
  by_cases l0 : ss.length ≤ 1048576
  · go_enter Try.func19, Try.ntmps19
    go_wp2
    go_loop [5, 6] (fun n i => ∃ (k : Nat) (r : Int), k ≤ ss.length ∧ i = .int .i64 k ∧ n = .int .i64 r ∧ r ≤ 1048576 ∧ 0 ≤ r ∧ Hid (r = ss.length + total (ss.take k))) (fun _ i => ss.length - (intOf i).toNat)
    case atStart => exact ⟨0, _, Nat.zero_le _, rfl, rfl, by omega, by omega, show _ = _ by simp [total]⟩
    case round =>
      obtain ⟨k, r, hk, rfl, rfl, hr1, hr0, hr⟩ := hrel
      by_cases hlt : k < ss.length
      · obtain ⟨b, off, rfl, hc⟩ := h0 k hlt
        have hst := total_step ss k hlt
        have hsz := S0.out (ss.getD k ByteArray.empty) (by simp [List.getD_eq_getElem?_getD, List.getElem?_eq_getElem hlt])
        obtain ⟨s, hs⟩ : ∃ s, s = ss.getD k ByteArray.empty := ⟨_, rfl⟩
        rw [← hs] at hc hst hsz
        have HS : Hid (total (ss.take (k + 1)) = total (ss.take k) + s.size) := hst
        unfold maxLen at hsz
        clear hs hst h0 h1 S0 S1
        by_cases hq : (s.size : Int) ≤ 1048576
        · by_cases hq2 : r + s.size ≤ 1048576
          · go_wp2
            go_round
            case rel => exact ⟨k + 1, r + s.size, by omega, by go_num, rfl, hq2, by omega, show _ = _ by have := hr.out; have := HS.out; omega⟩
            case measure => simp [intOf]; omega
          · go_wp2
            go_ret
            exact guard_no rfl rfl
        · go_wp2
          go_ret
          exact guard_no rfl rfl
      · have HR : Hid (r = ss.length + total ss) := show _ = _ by rw [hr.out, List.take_of_length_le (by omega)]
        clear h0 hr S0
        by_cases l1 : tt.length ≤ 1048576
        · by_cases l2 : r + tt.length ≤ 1048576
          · go_wp2
            go_loop [5, 7] (fun n i => ∃ (k : Nat) (q : Int), k ≤ tt.length ∧ i = .int .i64 k ∧ n = .int .i64 q ∧ q ≤ 1048576 ∧ 0 ≤ q ∧ Hid (q = r + tt.length + total (tt.take k))) (fun _ i => tt.length - (intOf i).toNat)
            case atStart => exact ⟨0, _, Nat.zero_le _, rfl, rfl, by omega, by omega, show _ = _ by simp [total]⟩
            case round =>
              obtain ⟨j, q, hj, rfl, rfl, hq1, hq0, hq⟩ := hrel
              by_cases hjt : j < tt.length
              · obtain ⟨b, off, rfl, hc⟩ := h1 j hjt
                have hst := total_step tt j hjt
                have hsz := S1.out (tt.getD j ByteArray.empty) (by simp [List.getD_eq_getElem?_getD, List.getElem?_eq_getElem hjt])
                obtain ⟨s, hs⟩ : ∃ s, s = tt.getD j ByteArray.empty := ⟨_, rfl⟩
                rw [← hs] at hc hst hsz
                have HS : Hid (total (tt.take (j + 1)) = total (tt.take j) + s.size) := hst
                unfold maxLen at hsz
                clear hs hst h1 S1
                by_cases hv : (s.size : Int) ≤ 1048576
                · by_cases hv2 : q + s.size ≤ 1048576
                  · go_wp2
                    go_round
                    case rel => exact ⟨j + 1, q + s.size, by omega, by go_num, rfl, hv2, by omega, show _ = _ by have := hq.out; have := HS.out; omega⟩
                    case measure => simp [intOf]; omega
                  · go_wp2
                    go_ret
                    exact guard_no rfl rfl
                · go_wp2
                  go_ret
                  exact guard_no rfl rfl
              · have HQ := hq.out
                rw [List.take_of_length_le (by omega)] at HQ
                have HF : Hid (ss.length + total ss + (tt.length + total tt) ≤ 1048576) := show _ ≤ _ by have := HR.out; omega
                clear HQ hq h1 S1 HR
                go_wp2
                go_ret
                exact guard_yes HF.out rfl rfl
          · go_wp2
            go_ret
            exact guard_no rfl rfl
        · go_wp2
          go_ret
          exact guard_no rfl rfl
  · go_enter Try.func19, Try.ntmps19
    go_wp2
    go_ret
    exact guard_no rfl rfl
end Go.Proofs.Qxb6605282a.Ef
