/-
  THE WALK of hexValue (8).
-/
import Derived.Test.Qxb6605376aHxWalks
namespace Go.Proofs.Qxb6605376a.Hv
open Go.RowKit
open Go.Proofs.Qxb6605376a.Plain (hv hv_le hv_cases)
open Go.Proofs.Qxb6605376a.Hx
set_option linter.unusedVariables false

def hexTab : ByteArray := ⟨#[48, 49, 50, 51, 52, 53, 54, 55, 56, 57, 97, 98, 99, 100, 101, 102, 48, 49, 50, 51, 52, 53, 54, 55, 56, 57, 65, 66, 67, 68, 69, 70]⟩
theorem hexTab_size : hexTab.size = 32 := rfl

theorem tab_all : ∀ k : Fin 32, hv ((hexTab.data[k.val]'k.isLt).toNat : Int) = k.val % 16 := by decide
theorem tab_val (k : Nat) (h : k < 32) (c : Int) (hc : (((hexTab[k]'(by have := hexTab_size; omega)).toNat : Int) == c) = true) : (k : Int) % 16 = hv c := by
  have e := tab_all ⟨k, h⟩
  have ec : ((hexTab.data[k]'h).toNat : Int) = c := by
    have := eq_of_beq hc
    exact this
  rw [ec] at e
  exact e.symm

theorem tab_a : ∀ d : Fin 10, ((hexTab.data[d.val]'(Nat.lt_of_lt_of_le d.isLt (by decide))).toNat : Int) = 48 + d.val := by decide
theorem tab_b : ∀ d : Fin 6, ((hexTab.data[10 + d.val]'(Nat.lt_of_lt_of_le (Nat.add_lt_add_left d.isLt 10) (by decide))).toNat : Int) = 97 + d.val := by decide
theorem tab_c : ∀ d : Fin 6, ((hexTab.data[26 + d.val]'(Nat.lt_of_lt_of_le (Nat.add_lt_add_left d.isLt 26) (by decide))).toNat : Int) = 65 + d.val := by decide

theorem tab_none (c : Int) (h : ∀ j, (hj : j < hexTab.size) → (((hexTab[j]'hj).toNat : Int) == c) = false) : -1 = hv c := by
  have hne : ∀ j, (hj : j < hexTab.size) → ¬ (((hexTab[j]'hj).toNat : Int) = c) := fun j hj e => by
    have := h j hj
    rw [e] at this
    simp at this
  by_cases hh : 0 ≤ hv c
  · rcases hv_cases c hh with ⟨h1, h2, _⟩ | ⟨h1, h2, _⟩ | ⟨h1, h2, _⟩
    · have hl : (c - 48).toNat < 10 := by omega
      exact absurd ((tab_a ⟨(c - 48).toNat, hl⟩).trans (by simp only []; omega)) (hne _ _)
    · have hl : (c - 97).toNat < 6 := by omega
      exact absurd ((tab_b ⟨(c - 97).toNat, hl⟩).trans (by simp only []; omega)) (hne _ _)
    · have hl : (c - 65).toNat < 6 := by omega
      exact absurd ((tab_c ⟨(c - 65).toNat, hl⟩).trans (by simp only []; omega)) (hne _ _)
  · have := hv_le c
    omega

set_option maxHeartbeats 400000 in
theorem hexValue_any (c : Int) (w : World) :
    Calls Try.prog 8 #[.int .u8 c] w fun e w' => e = .returned (.int .i64 (hv c)) ∧ w' = w := by
  go_enter Try.func8, Try.ntmps8
  go_wp2
  go_loop [3] (fun i => ∃ k : Nat, k ≤ 32 ∧ i = .int .i64 k ∧ Hid (∀ j, (hj : j < hexTab.size) → j < k → (((hexTab[j]'hj).toNat : Int) == c) = false)) (fun i => 32 - (intOf i).toNat)
  case atStart => exact ⟨0, by omega, rfl, fun j _ h => absurd h (by omega)⟩
  case round =>
    obtain ⟨k, hk, rfl, hall⟩ := hrel
    by_cases hlt : k < 32
    · go_wp2
      · have HV := tab_val k hlt c ‹_›
        go_ret
        exact ⟨ret_int HV, rfl⟩
      · have HN : (((hexTab[k]'(by have := hexTab_size; omega)).toNat : Int) == c) = false := by assumption
        go_round
        case rel =>
          refine ⟨k + 1, by omega, by go_num, ?_⟩
          intro j hj hjk
          by_cases e : j = k
          · subst e; exact HN
          · exact hall j hj (by omega)
        case measure => simp [intOf]; omega
    · have HV : Hid (-1 = hv c) := tab_none c (fun j hj => hall.out j hj (by have := hexTab_size; omega))
      go_wp2
      go_ret
      exact ⟨ret_int HV.out, rfl⟩
end Go.Proofs.Qxb6605376a.Hv
