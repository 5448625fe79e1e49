import Derived.Test.Qxb6605282aProg
import Derived.Test.Qxb6605282aDsPlain
import Derived.WalkKit
import Derived.WalkSpells
import Derived.WalkLawsBesides
import Derived.Outline
namespace Go.Proofs.Qxb6605282a.Dz
open Go.RowKit
open Go.Proofs.Qxb6605282a.Plain
set_option linter.unusedVariables false

theorem info5 : (Try.prog.info? 5).map (fun i => (i.zero, i.size, i.bytes)) = some (some (.int .u8 0), 1, 1) := by kernel_rfl

/-- The row behind k rounds: the first k cells hold the first k bytes, digits as '0'. -/
def Upto (s : ByteArray) (k : Nat) (xs : List Value) : Prop := ∀ j, (h : j < s.size) → j < k → xs[j]? = some (.int .u8 (nz s[j]).toNat)

theorem Upto.step {s : ByteArray} {k : Nat} {xs : List Value} (h : Upto s k xs) (hl : xs.length = s.size) (hk : k < s.size) (v : Int) (hv : v = (nz s[k]).toNat) : Upto s (k + 1) (xs.set k (.int .u8 v)) := by
  intro j hj hjk
  subst hv
  by_cases e : j = k
  · subst e
    rw [List.getElem?_set_self (by omega)]
  · rw [List.getElem?_set_ne (by omega)]
    exact h j hj (by omega)

set_option maxHeartbeats 400000 in
theorem digits_any (s : ByteArray) (hs : s.size ≤ 1048576) (w : World) :
    Calls Try.prog 17 #[.string s] w fun e w' => e = .returned (.slice (some ⟨w.heap.size, 0, none⟩) s.size s.size) ∧ Below w.heap.size w w' ∧ w.heap.size < w'.heap.size ∧
      ∀ j, (h : j < s.size) → w'.cell? ⟨w.heap.size, j, none⟩ = some (.int .u8 (nz s[j]).toNat) := by
  obtain ⟨i0, hi, hz0, hz1, hz2⟩ := info_parts info5
  go_enter Try.func17, Try.ntmps17
  go_wp2_with (at_make; refine wpList_make_full _ rfl _ _ 23 rfl w.heap.size 5 i0 (.int .u8 0) 1 Try.underlying23 hi hz0 hz1 .i64 .i64 _ _ s.size rfl rfl rfl rfl (by rw [hz2]; omega) (by unfold maxLen; omega) (Nat.le_refl _) ?_)
  intro w1 hown hgr
  have hlow := Below.grown (Below.refl w.heap.size w) hgr (Nat.le_refl _) (fun k h => by cases h)
  clear hgr
  go_wp2
  go_loopw [4] (fun i wr => ∃ (k : Nat) (xs : List Value), k ≤ s.size ∧ i = .int .i64 k ∧ wr.ownsRow w.heap.size 5 1 (.slice (some ⟨w.heap.size, 0, none⟩) s.size s.size) s.size xs ∧ Upto s k xs ∧ Below w.heap.size w wr) (fun i _ => s.size - (intOf i).toNat)
  case atStart => exact ⟨0, _, Nat.zero_le _, rfl, hown, fun j _ h => absurd h (by omega), hlow⟩
  case round =>
    obtain ⟨k, xs, hk, rfl, hr, hup, hb⟩ := hrel
    clear hown hlow
    by_cases hlt : k < s.size
    · have hlen : xs.length = s.size := by simpa using hr.1
      obtain ⟨v0, hcell⟩ : ∃ v0, wr.cell? ⟨w.heap.size, k, none⟩ = some v0 :=
        ⟨xs[k]'(by omega), by rw [hr.cellAt k (by omega), List.getElem?_eq_getElem]⟩
      have hfz := hr.frozenAt k
      have HL : Hid (xs.length = s.size) := hlen
      clear hlen
      by_cases hd : 48 ≤ (s[k].toNat : Int) ∧ (s[k].toNat : Int) ≤ 57
      · obtain ⟨hd1, hd2⟩ := hd
        go_wp2
        go_roundw
        case rel => exact ⟨k + 1, _, by omega, by go_num, (hr.stored k _).1, hup.step HL.out hlt _ (by unfold nz; rw [if_pos ⟨by omega, by omega⟩]; rfl), hb.setCell (Nat.le_refl _) _⟩
        case measure => simp [intOf]; omega
      · have hv : (s[k].toNat : Int) = (nz s[k]).toNat := by unfold nz; rw [if_neg (by omega)]
        have HV : Hid ((s[k].toNat : Int) = (nz s[k]).toNat) := hv
        clear hv
        rcases (show (s[k].toNat : Int) < 48 ∨ 57 < (s[k].toNat : Int) from by omega) with h | h
        all_goals
          clear hd
          go_wp2
          go_roundw
          case rel => exact ⟨k + 1, _, by omega, by go_num, (hr.stored k _).1, hup.step HL.out hlt _ HV.out, hb.setCell (Nat.le_refl _) _⟩
          case measure => simp [intOf]; omega
    · go_wp2
      go_ret
      refine ⟨rfl, hb, ?_, fun j hj => ?_⟩
      · rcases hr.2 with ⟨h, _⟩ | ⟨g, cap, cur, h, _, hg, _⟩
        · simp at h
        · simp only [Value.slice.injEq, Option.some.injEq, Addr.mk.injEq, and_true] at h
          rw [← h.1] at hg
          exact (Array.getElem?_eq_some_iff.1 hg).1
      · rw [hr.cellAt j (by omega)]
        exact hup j hj (by omega)
end Go.Proofs.Qxb6605282a.Dz
