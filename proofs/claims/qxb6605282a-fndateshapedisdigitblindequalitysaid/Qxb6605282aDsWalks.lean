import Derived.Test.Qxb6605282aProg
import Derived.Test.Qxb6605282aDsPlain
import Derived.WalkKit
import Derived.WalkSpells
import Derived.WalkLawsBesides
import Derived.Deep.QuietTactic
import Derived.BigQuiet
import Derived.Outline
namespace Go.Proofs.Qxb6605282a.Ds
open Go.RowKit
open Go.Proofs.Qxb6605282a.Plain
set_option linter.unusedVariables false

theorem ret_bool {a b : Bool} (h : a = b) : Ending.returned (.bool a) = .returned (.bool b) := by rw [h]

set_option maxHeartbeats 400000 in
theorem dateShaped_any (t l : ByteArray) (ht : t.size ≤ maxLen) (hl : l.size ≤ maxLen) (w : World) :
    Calls Try.prog 24 #[.string t, .string l] w fun e w' => e = .returned (.bool (shaped t l)) ∧ ∃ n, w' = w.drewN n := by
  unfold maxLen at ht hl
  by_cases hs : (t.size : Int) = l.size
  · go_enter Try.func24, Try.ntmps24
    go_wp2
    go_loopw [13] (fun i wr => ∃ k n : Nat, k ≤ l.size ∧ i = .int .i64 k ∧ wr = w.drewN n ∧ Hid (∀ j, (h1 : j < t.size) → (h2 : j < l.size) → j < k → nz t[j] = nz l[j])) (fun i _ => l.size - (intOf i).toNat)
    case atStart => exact ⟨0, 0, Nat.zero_le _, rfl, rfl, fun j _ _ h => absurd h (by omega)⟩
    case round =>
      obtain ⟨k, n, hk, rfl, rfl, hall⟩ := hrel
      by_cases hlt : k < l.size
      · have hlt' : k < t.size := by omega
        have hstep : nz t[k] = nz l[k] → Hid (∀ j, (h1 : j < t.size) → (h2 : j < l.size) → j < k + 1 → nz t[j] = nz l[j]) := by
          intro he j h1 h2 hj
          by_cases hjk : j < k
          · exact hall j h1 h2 hjk
          · obtain rfl : j = k := by omega
            exact he
        have hbad : nz t[k] ≠ nz l[k] → shaped t l = false := shaped_at t l k hlt' hlt
        have HB : Hid (nz t[k] ≠ nz l[k] → shaped t l = false) := hbad
        have HS : Hid (nz t[k] = nz l[k] → Hid (∀ j, (h1 : j < t.size) → (h2 : j < l.size) → j < k + 1 → nz t[j] = nz l[j])) := hstep
        clear hstep hbad hall
        by_cases hd : 48 ≤ (l[k].toNat : Int) ∧ (l[k].toNat : Int) ≤ 57
        · obtain ⟨hd1, hd2⟩ := hd
          by_cases he : 48 ≤ (t[k].toNat : Int) ∧ (t[k].toNat : Int) ≤ 57
          · obtain ⟨he1, he2⟩ := he
            have hz := HS.out (nz_digit t[k] l[k] he1 he2 hd1 hd2)
            clear HB HS
            go_wp2
            go_roundw
            case rel => exact ⟨k + 1, n, by omega, by go_num, rfl, hz⟩
            case measure => simp [intOf]; omega
          · have hz := HB.out (nz_out t[k] l[k] he hd1 hd2)
            have HZ : Hid (shaped t l = false) := hz
            clear HB HS hz
            rcases (show (t[k].toNat : Int) < 48 ∨ 57 < (t[k].toNat : Int) from by omega) with h | h
            all_goals
              go_wp2
              go_ret
              exact ⟨ret_bool HZ.out.symm, n, rfl⟩
        · by_cases he : (t[k].toNat : Int) = (l[k].toNat : Int)
          · have hz := HS.out (nz_same t[k] l[k] he)
            have hb : ((t[k].toNat : Int) != (l[k].toNat : Int)) = false := by simp [he]
            clear HB HS he
            rcases (show (l[k].toNat : Int) < 48 ∨ 57 < (l[k].toNat : Int) from by omega) with h | h
            all_goals
              clear hd
              go_wp2
              go_quiet (fail)
              go_wp2
              go_roundw
              case rel => exact ⟨k + 1, _, by omega, by go_num, rfl, hz⟩
              case measure => simp [intOf]; omega
          · have hz := HB.out (nz_other t[k] l[k] hd he)
            have hb : ((t[k].toNat : Int) != (l[k].toNat : Int)) = true := by simpa using he
            have HZ : Hid (shaped t l = false) := hz
            clear HB HS hz he
            rcases (show (l[k].toNat : Int) < 48 ∨ 57 < (l[k].toNat : Int) from by omega) with h | h
            all_goals
              clear hd
              go_wp2
              go_quiet (fail)
              go_wp2
              go_ret
              exact ⟨ret_bool HZ.out.symm, _, World.drewN_drewN ..⟩
      · have hz := shaped_all t l (by omega) (fun j h1 h2 => hall.out j h1 h2 (by omega))
        have HZ : Hid (shaped t l = true) := hz
        clear hz hall
        go_wp2
        go_ret
        exact ⟨ret_bool HZ.out.symm, n, rfl⟩
  · have hf := shaped_size t l (by omega)
    rw [hf]
    go_enter Try.func24, Try.ntmps24
    go_wp2
    go_ret
    exact ⟨rfl, 0, rfl⟩
end Go.Proofs.Qxb6605282a.Ds
