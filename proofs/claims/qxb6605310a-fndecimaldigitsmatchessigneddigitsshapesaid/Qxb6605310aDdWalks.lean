/-
  THE WALK of decimalDigits (6).
-/
import Derived.Test.Qxb6605310aProg
import Derived.Test.Qxb6605310aDdPlain
import Derived.WalkKit
import Derived.WalkSpells
import Derived.WalkLawsBesides
import Derived.Laws.IdiomStrings
import Derived.Deep.DeepCutAuto
import Derived.Outline
namespace Go.Proofs.Qxb6605310a.Dd
open Go.RowKit
open Go.Proofs.Qxb6605310a.Plain
set_option linter.unusedVariables false

theorem ret_bool {a b : Bool} (h : a = b) : Ending.returned (.bool a) = .returned (.bool b) := by rw [h]

/-- '[]byte(s)': the capacity and the world that it leaves, as names. -/
def capW (W : World) (s : ByteArray) : Nat := grownCap W s.size 0 5
def afterW (W : World) (s : ByteArray) : World := W.drew.alloc (.cells (bytesRow s (capW W s)) 5 ((bytesRow s (capW W s)).size, (bytesRow s (capW W s)).size + 1))

theorem run_conv (W : World) (s : ByteArray) : (convert 9 23 (.string s)).run Try.prog W = .ok (.slice (some ⟨W.heap.size, 0, none⟩) s.size (capW W s)) (afterW W s) :=
  run_bytes_of_string W 9 23 5 s Try.underlying9 Try.underlying23 Try.underlying5

theorem cell_after (W : World) (s : ByteArray) (j : Nat) (hj : j < s.size) : (afterW W s).cell? ⟨W.heap.size, j, none⟩ = some (.int .u8 s[j].toNat) := by
  have h := World.cell?_alloc_mark W.drew (bytesRow s (capW W s)) 5 ((bytesRow s (capW W s)).size, (bytesRow s (capW W s)).size + 1) j
  rw [bytesRow_at s (capW W s) j hj] at h
  exact h

theorem below_after (W : World) (s : ByteArray) : Below W.heap.size W (afterW W s) := (Below.drew (Below.refl _ W)).alloc (Nat.le_refl _) _

/-- Does the text open with a sign? -/
def sg (s : ByteArray) : Bool := match s.data.toList with | [] => false | c :: _ => sgn c

theorem sg_empty (s : ByteArray) (h : s.size = 0) : sg s = false := by
  have : s.data.toList = [] := List.eq_nil_of_length_eq_zero (by simpa using h)
  simp [sg, this]

theorem list_cons (s : ByteArray) (h : 0 < s.size) : s.data.toList = s[0] :: s.data.toList.drop 1 := by
  have e := List.drop_eq_getElem_cons (i := 0) (l := s.data.toList) (by simpa using h)
  rw [List.drop_zero] at e
  exact e

theorem sg_eq (s : ByteArray) (h : 0 < s.size) : sg s = sgn s[0] := by
  unfold sg
  rw [list_cons s h]

theorem sg_pos (s : ByteArray) (h : sg s = true) : 0 < s.size := by
  by_cases h0 : s.size = 0
  · rw [sg_empty s h0] at h; cases h
  · omega

theorem toList_nil (s : ByteArray) (h : s.size = 0) : s.toList = [] := by
  rw [ByteArray.toList_eq]
  exact List.eq_nil_of_length_eq_zero (by simpa using h)
theorem toList_not (s : ByteArray) (h : 0 < s.size) : ¬ s.toList = [] := by
  rw [ByteArray.toList_eq]
  intro e
  have hl : s.data.toList.length = s.size := by simp
  rw [e] at hl
  simp at hl
  omega

theorem sgn_yes (c : UInt8) (h : (c.toNat : Int) = 45 ∨ (c.toNat : Int) = 43) : true = sgn c := by
  unfold sgn
  exact (decide_eq_true (by omega)).symm
theorem sgn_no (c : UInt8) (h : ¬ (c.toNat : Int) = 43 ∧ ¬ (c.toNat : Int) = 45) : false = sgn c := by
  unfold sgn
  exact (decide_eq_false (by omega)).symm

theorem cut_no (s : ByteArray) (h : sg s = false) : s.data.toList = cut s.data.toList := by
  by_cases h0 : s.size = 0
  · have : s.data.toList = [] := List.eq_nil_of_length_eq_zero (by simpa using h0)
    rw [this]; rfl
  · rw [sg_eq s (by omega)] at h
    rw [list_cons s (by omega)]
    simp [cut, h]

theorem cut_yes (s : ByteArray) (h : sg s = true) : (s.extract 1 s.size).data.toList = cut s.data.toList := by
  have h0 := sg_pos s h
  rw [sg_eq s h0] at h
  have e : (s.extract 1 s.size).data.toList = s.data.toList.drop 1 := by
    rw [ByteArray.data_extract, Array.toList_extract, List.extract_eq_take_drop]
    rw [List.take_of_length_le (by simp)]
  rw [e, list_cons s h0]
  simp [cut, h]

set_option maxHeartbeats 400000 in
theorem dd_any (s : ByteArray) (hs : s.size ≤ 1048576) (w : World) :
    Calls Try.prog 6 #[.string s] w fun e w' => e = .returned (.bool (dd s.data.toList)) ∧ Below w.heap.size w w' := by
  have hconv := run_conv
  go_enter Try.func6, Try.ntmps6
  go_upto_region 1 with fail
  go_cut [16] (fun t16 wc => t16 = .bool (sg s) ∧ wc = w)
  case first =>
    by_cases h0 : s.size = 0
    · have hz := toList_nil s h0
      have HR : Hid (sg s = false) := sg_empty s h0
      clear h0
      go_wp2
      go_meet
      exact ⟨congrArg Value.bool HR.out.symm, rfl⟩
    · have hpos : 0 < s.size := by omega
      have hz : s.toList.isEmpty = false := by simpa using toList_not s hpos
      have HR : Hid (sg s = sgn s[0]) := sg_eq s hpos
      clear h0
      by_cases h1 : (s[0].toNat : Int) = 45
      · have hb : ((s[0].toNat : Int) == 45) = true := by simp [h1]
        have HB : Hid ((s[0].toNat : Int) = 45) := h1
        clear h1
        go_wp2
        go_meet
        exact ⟨congrArg Value.bool ((sgn_yes s[0] (.inl HB.out)).trans HR.out.symm), rfl⟩
      · have hb : ((s[0].toNat : Int) == 45) = false := by simpa using h1
        by_cases h2 : (s[0].toNat : Int) = 43
        · have hb2 : ((s[0].toNat : Int) == 43) = true := by simp [h2]
          have HB : Hid ((s[0].toNat : Int) = 43) := h2
          clear h1 h2
          go_wp2
          go_meet
          exact ⟨congrArg Value.bool ((sgn_yes s[0] (.inr HB.out)).trans HR.out.symm), rfl⟩
        · have hb2 : ((s[0].toNat : Int) == 43) = false := by simpa using h2
          have HB : Hid (¬ (s[0].toNat : Int) = 43 ∧ ¬ (s[0].toNat : Int) = 45) := ⟨h2, h1⟩
          clear h1 h2
          go_wp2
          go_meet
          exact ⟨congrArg Value.bool ((sgn_no s[0] HB.out).trans HR.out.symm), rfl⟩
  case rest =>
    obtain ⟨rfl, rfl⟩ := hcut
    go_upto_if 16 with fail
    obtain ⟨wk, rfl⟩ : ∃ wk : World, wk = wc := ⟨_, rfl⟩
    go_cut [0] (fun t0 wd => ∃ u, t0 = .string u ∧ Hid (u.data.toList = cut s.data.toList) ∧ u.size ≤ 1048576 ∧ wd = wk)
    case first =>
      cases hsg : sg s
      · have HC : Hid (s.data.toList = cut s.data.toList) := cut_no s hsg
        go_wp2
        go_meet
        exact ⟨s, rfl, HC, hs, rfl⟩
      · have HC : Hid ((s.extract 1 s.size).data.toList = cut s.data.toList) := cut_yes s hsg
        have hpos := sg_pos s hsg
        go_wp2
        go_meet
        exact ⟨s.extract 1 s.size, rfl, HC, by simp; omega, rfl⟩
    case rest =>
      obtain ⟨u, rfl, HU, hu, rfl⟩ := hcut
      have HD : Hid (dd s.data.toList = body u.data.toList) := show _ = _ by rw [HU.out]; rfl
      clear HU
      have hbel := below_after wc u
      have HCELL : Hid (∀ j, (hj : j < u.size) → (afterW wc u).cell? ⟨wc.heap.size, j, none⟩ = some (.int .u8 u[j].toNat)) := cell_after wc u
      go_wp2
      clear hconv
      go_loop [22] (fun i => ∃ k : Nat, k ≤ u.size ∧ i = .int .i64 k ∧ Hid (∀ j, (hj : j < u.size) → j < k → dig u[j] = true)) (fun i => u.size - (intOf i).toNat)
      case atStart => exact ⟨0, Nat.zero_le _, rfl, fun j _ h => absurd h (by omega)⟩
      case round =>
        obtain ⟨k, hk, rfl, hall⟩ := hrel
        by_cases hlt : k < u.size
        · have hc := HCELL.out k hlt
          by_cases hd : 48 ≤ (u[k].toNat : Int) ∧ (u[k].toNat : Int) ≤ 57
          · obtain ⟨h1, h2⟩ := hd
            have HS : Hid (∀ j, (hj : j < u.size) → j < k + 1 → dig u[j] = true) := by
              intro j hj hjk
              by_cases e : j = k
              · subst e
                exact decide_eq_true ⟨by omega, by omega⟩
              · exact hall j hj (by omega)
            clear hall
            go_wp2
            go_round
            case rel => exact ⟨k + 1, by omega, by go_num, HS⟩
            case measure => simp [intOf]; omega
          · have HZ : Hid (body u.data.toList = false) := body_stop u k hlt (decide_eq_false (by omega))
            clear hall
            rcases (show (u[k].toNat : Int) < 48 ∨ 57 < (u[k].toNat : Int) from by omega) with h | h
            all_goals
              clear hd
              go_wp2
              go_ret
              exact ⟨ret_bool (HD.out.trans HZ.out).symm, hbel⟩
        · have HZ : Hid (body u.data.toList = !u.toList.isEmpty) := show _ = _ by
            rw [body_all u (fun j hj => hall.out j hj (by omega)), ByteArray.toList_eq]
          clear hall
          go_wp2
          all_goals
            go_ret
            exact ⟨ret_bool (HD.out.trans HZ.out).symm, hbel⟩
end Go.Proofs.Qxb6605310a.Dd
