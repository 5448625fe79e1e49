/-
  THE WALK of hex4 (15), ZZHex4 (9).
-/
import Derived.Test.Qxb6605376aProg
import Derived.Test.Qxb6605376aHxPlain
import Derived.WalkKit
import Derived.WalkSpells
import Derived.WalkLawsBesides
import Derived.Outline
namespace Go.Proofs.Qxb6605376a.Hx
open Go.RowKit
open Go.Proofs.Qxb6605376a.Plain (hv hv_le hv_cases val val_bounds val_small)
set_option linter.unusedVariables false

theorem ret_int {k : IntKind} {a b : Int} (h : a = b) : Ending.returned (.int k a) = .returned (.int k b) := by rw [h]
theorem ret_bool {a b : Bool} (h : a = b) : Ending.returned (.bool a) = .returned (.bool b) := by rw [h]

theorem ofInt_nat (k a : Nat) (h : a < 2 ^ k) : (BitVec.ofInt k (a : Int)).toNat = a := by
  rw [BitVec.ofInt_natCast, BitVec.toNat_ofNat]; exact Nat.mod_eq_of_lt h

theorem or_i32 (v y : Int) (h1 : 0 ≤ v) (h2 : v ≤ 4095) (h3 : 0 ≤ y) (h4 : y ≤ 15) : bits .or .i32 (v * 16) y = v * 16 + y := by
  obtain ⟨a, rfl⟩ : ∃ a : Nat, v = a := ⟨v.toNat, by omega⟩
  obtain ⟨b, rfl⟩ : ∃ b : Nat, y = b := ⟨y.toNat, by omega⟩
  have e : ((a : Int) * 16) = ((a * 16 : Nat) : Int) := by omega
  rw [e]
  show IntKind.i32.wrap ((BitVec.ofInt 32 ((a * 16 : Nat) : Int) ||| BitVec.ofInt 32 (b : Int)).toNat : Int) = _
  rw [BitVec.toNat_or, ofInt_nat 32 _ (by omega), ofInt_nat 32 _ (by omega), nat_join 4 (a * 16) b (by omega) (by omega), IntKind.wrap_i32]
  omega

set_option maxHeartbeats 400000 in
theorem hex4_any (b off n cap : Nat) (c : Nat → Int) (w : World) (hn : 4 ≤ n) (hn2 : n ≤ cap) (hm : cap ≤ 2097152) (hc : ∀ i, i < 4 → w.cell? ⟨b, off + i, none⟩ = some (.int .u8 (c i))) (hh : ∀ i, i < 4 → 0 ≤ hv (c i)) :
    Calls Try.prog 15 #[.slice (some ⟨b, off, none⟩) n cap] w fun e w' => e = .returned (.int .i32 (val c 4)) ∧ w' = w := by
  go_enter Try.func15, Try.ntmps15
  go_wp2
  have HC : Hid (∀ i, i < 4 → w.cell? ⟨b, off + i, none⟩ = some (.int .u8 (c i))) := hc
  have HH : Hid (∀ i, i < 4 → 0 ≤ hv (c i)) := hh
  clear hc hh
  go_loop [3, 5, 9] (fun r _ i => ∃ (k : Nat) (v : Int), k ≤ 4 ∧ i = .int .i64 k ∧ r = .int .i32 v ∧ Hid (v = val c k)) (fun _ _ i => 4 - (intOf i).toNat)
  case atStart => exact ⟨0, 0, by omega, rfl, rfl, rfl⟩
  case round =>
    obtain ⟨k, v, hk, rfl, rfl, hv1⟩ := hrel
    by_cases hlt : k < 4
    · have hcell := HC.out k hlt
      have hcs := hv_cases (c k) (HH.out k hlt)
      have hvb := val_small c HH.out k (by omega)
      rw [← hv1.out] at hvb
      obtain ⟨hvb1, hvb2⟩ := hvb
      have HST : Hid (val c (k + 1) = v * 16 + hv (c k)) := show _ = _ by rw [val, hv1.out]
      obtain ⟨x, hx⟩ : ∃ x, x = c k := ⟨_, rfl⟩
      rw [← hx] at hcell hcs HST
      clear hx hv1
      rcases hcs with ⟨h1, h2, h3⟩ | ⟨h1, h2, h3⟩ | ⟨h1, h2, h3⟩
      all_goals
        rw [h3] at HST
        clear h3
        go_wp2
        go_round
        case rel => exact ⟨k + 1, _, by omega, by go_num, rfl, (or_i32 _ _ (by omega) (by omega) (by omega) (by omega)).trans HST.out.symm⟩
        case measure => simp [intOf]; omega
    · obtain rfl : k = 4 := by omega
      go_wp2
      go_ret
      exact ⟨ret_int hv1.out, rfl⟩

theorem zhex4_any (b off n cap : Nat) (c : Nat → Int) (r : Int) (w : World) (hn : 4 ≤ n) (hn2 : n ≤ cap) (hm : cap ≤ 2097152) (hc : ∀ i, i < 4 → w.cell? ⟨b, off + i, none⟩ = some (.int .u8 (c i))) (hh : ∀ i, i < 4 → 0 ≤ hv (c i)) (hr : val c 4 = r) :
    Calls Try.prog 9 #[.slice (some ⟨b, off, none⟩) n cap] w fun e w' => e = .returned (.int .i32 r) ∧ w' = w := by
  have HC : Hid (∀ i, i < 4 → w.cell? ⟨b, off + i, none⟩ = some (.int .u8 (c i))) := hc
  have HH : Hid (∀ i, i < 4 → 0 ≤ hv (c i)) := hh
  have HR : Hid (val c 4 = r) := hr
  clear hc hh hr
  go_enter Try.func9, Try.ntmps9
  go_wp2_with fail
  refine (hex4_any b off n cap c w hn hn2 hm HC.out HH.out).mono ?_
  rintro e w' ⟨rfl, rfl⟩
  go_wp2
  go_ret
  exact ⟨ret_int HR.out, rfl⟩
end Go.Proofs.Qxb6605376a.Hx
