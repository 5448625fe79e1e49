/-
  'Rows.FnDecimalDigitsMatchesSignedDigitsShapeSaid' PROVED.
-/
import Derived.Test.Qxb6605310aRows
import Derived.Test.Qxb6605310aDdWalks
import Derived.WalkKit
import Derived.WalkSpells
import Derived.WalkLawsBesides
import Derived.Outline
import Derived.ProofKit
import Derived.OpenShut
import Derived.ShutString
namespace Go.Proofs.Qxb6605310a.fnDecimalDigitsMatchesSignedDigitsShape
open Go.ChangeShapes Go.WideShapes Go.ChangeAt Go.RowKit
open Go.ChangeMaps (open_string shut_string)
open Go.Proofs.Qxb6605310a.Plain (dig sgn run dd law run_take run_le step_le step_stay step_dig step_hi step_sign step_late step_lo)
set_option linter.unusedVariables false      -- a walk need not use every 'w<i>' (that an integer argument fits its kind)

theorem own : ownKnob Try.prog.godebug = none := by kernel_rfl

theorem guard_yes (a : ByteArray) (h : (a.size : Int) ≤ 1048576) (w : World) :
    Calls Try.prog 4 #[.string a] w fun e w' => e = .returned (.bool true) ∧ w' = w := by
  go_enter Try.func4, Try.ntmps4
  go_wp2
  go_ret
  exact ⟨rfl, rfl⟩

theorem guard_no (a : ByteArray) (h : 1048576 < (a.size : Int)) (w : World) :
    Calls Try.prog 4 #[.string a] w fun e w' => e = .returned (.bool false) ∧ w' = w := by
  go_enter Try.func4, Try.ntmps4
  go_wp2
  go_ret
  exact ⟨rfl, rfl⟩

theorem zz_any (s : ByteArray) (hs : s.size ≤ 1048576) (r : Bool) (hr : Hid (r = dd s.data.toList)) (w : World) :
    Calls Try.prog 5 #[.string s] w fun e w' => e = .returned (.bool r) ∧ Below w.heap.size w w' := by
  go_enter Try.func5, Try.ntmps5
  go_wp2_with fail
  refine (Dd.dd_any s hs _).mono ?_
  rintro e w' ⟨rfl, hb⟩
  go_wp2
  go_ret
  exact ⟨Dd.ret_bool hr.out.symm, hb⟩

set_option maxHeartbeats 1000000 in
theorem walk (a0 : ByteArray) (w0 : a0.size ≤ maxLen) (w : World) :
    Calls Try.prog 3 #[.string a0] w fun e w' => e = .returned (.bool true) ∧ Below w.heap.size w w' := by
  by_cases h : (a0.size : Int) ≤ 1048576
  · go_enter Try.func3, Try.ntmps3
    go_wp2_with fail
    refine (guard_yes a0 h _).mono ?_
    rintro e w' ⟨rfl, rfl⟩
    go_wp2_with fail
    go_loop [3, 4, 5, 6, 7] (fun st i _ _ _ => ∃ k n : Nat, k ≤ a0.size ∧ n ≤ 3 ∧ i = .int .i64 k ∧ st = .int .i64 n ∧ Hid (n = run (a0.data.toList.take k))) (fun _ i _ _ _ => a0.size - (intOf i).toNat)
    case atStart => exact ⟨0, 0, Nat.zero_le _, Nat.zero_le _, rfl, rfl, rfl⟩
    case round =>
      obtain ⟨k, n, hk, hn, rfl, rfl, hr⟩ := hrel
      by_cases hlt : k < a0.size
      · have hst := run_take a0 k hlt
        rw [← hr.out] at hst
        have HST : Hid (run (a0.data.toList.take (k + 1)) = Plain.step n a0[k]) := hst
        clear hst hr
        go_wp2_with fail
        all_goals
          go_round
          case rel =>
            first
            | exact ⟨k + 1, n, by omega, hn, by go_num, rfl, (step_stay n _ ‹_›).trans HST.out.symm⟩
            | exact ⟨k + 1, 2, by omega, by omega, by go_num, rfl, (step_dig n _ ‹_› ‹_› ‹_›).trans HST.out.symm⟩
            | exact ⟨k + 1, 1, by omega, by omega, by go_num, rfl, (step_sign n _ ‹_› ‹_› (.inl ‹_›)).trans HST.out.symm⟩
            | exact ⟨k + 1, 1, by omega, by omega, by go_num, rfl, (step_sign n _ ‹_› ‹_› (.inr ‹_›)).trans HST.out.symm⟩
            | exact ⟨k + 1, 3, by omega, by omega, by go_num, rfl, (step_hi n _ ‹_› ‹_›).trans HST.out.symm⟩
            | exact ⟨k + 1, 3, by omega, by omega, by go_num, rfl, (step_late n _ ‹_› ‹_› (.inl ‹_›)).trans HST.out.symm⟩
            | exact ⟨k + 1, 3, by omega, by omega, by go_num, rfl, (step_late n _ ‹_› ‹_› (.inr ‹_›)).trans HST.out.symm⟩
            | exact ⟨k + 1, 3, by omega, by omega, by go_num, rfl, (step_lo n _ ‹_› ‹_› ‹_› ‹_›).trans HST.out.symm⟩
          case measure => simp [intOf]; omega
      · have hl := law a0.data.toList
        have hl2 : dd a0.data.toList = ((n : Int) == 2) := by
          have e := hr.out
          rw [List.take_of_length_le (by simp; omega)] at e
          rw [hl, ← e, Bool.eq_iff_iff]
          simp
          omega
        have HL : Hid (((n : Int) == 2) = dd a0.data.toList) := hl2.symm
        clear hl hl2 hr
        go_wp2_with fail
        refine (zz_any a0 (by omega) ((n : Int) == 2) HL _).mono ?_
        rintro e w2 ⟨rfl, hb⟩
        go_wp2
        go_ret
        exact ⟨rfl, hb⟩
  · go_enter Try.func3, Try.ntmps3
    go_wp2_with fail
    refine (guard_no a0 (by omega) _).mono ?_
    rintro e w' ⟨rfl, rfl⟩
    go_wp2
    go_ret
    exact ⟨rfl, Below.refl _ _⟩

/-! ### THE ROW's STEP: WRITTEN OUT: LEAVE IT -/
set_option maxRecDepth 100000 in
theorem lifted (os : Os) (started : os.Started) (H : Type) (enc : TypeId × Value → H) :
    ReturnsInHanded {} Try.checked os 3 .any (Rows.fnDecimalDigitsMatchesSignedDigitsShapeSpec.pre6 enc Try.prog Try.f3 Rows.fnDecimalDigitsMatchesSignedDigitsShapeRow.domain false) (Rows.fnDecimalDigitsMatchesSignedDigitsShapeSpec.post enc Try.prog Try.f3 false true false false) := by
  refine returnsInHanded_of_change (C := Try.checked) own started (by kernel_rfl) Try.func3
    (ChangeSpec.witness6 (enc := enc) (C := Try.checked) false ⟨#[], #[.string ByteArray.empty], []⟩ 8 (by kernel_rfl) (by kernel_rfl) (by kernel_rfl) (by kernel_rfl)) ?_
  intro W base args ds gs before hval0 hW hcnd _
  have hval : ∀ (j : Nat) t v, Try.f3.params[j]? = some t → args[j]? = some v → Value.okWide Try.prog W .any base t v := hval0
  have hW' := hW
  obtain ⟨p, q, hA0, hV, rfl, hfz, hnd⟩ := hW
  have hA : DataW.TrodAll enc Try.prog W 0 (fun _ => true) true Try.f3.params.toList args.toList ds p := hA0
  rw [Try.params3] at hA hval
  obtain ⟨v0, vs0, d0, ds0, p0, q0, hargs, rfl, rfl, h0, r0⟩ := trodAll_cons hA
  obtain ⟨rfl, rfl, rfl⟩ := trodAll_nil r0
  obtain rfl : args = #[v0] := by cases args; simp_all
  obtain ⟨rfl, rfl⟩ := trodVars_none hV
  obtain ⟨a0, rfl, rfl, rfl, w0⟩ := open_string Try.underlying9 (hval 0 9 v0 rfl rfl) h0
  clear hA0 hval0
  refine (walk a0 w0 W).mono fun e W' ⟨he, bel⟩ => ?_
  subst he
  exact ⟨_, rfl, _, _, _, [], _, [], hW', trodAll_mk1 (shut_bool Try.underlying4 _), (trodAll_cons_mk (shut_string Try.underlying9 w0) trodAll_mk0), rfl, bel.frame _, fun h => by cases h⟩

theorem over : Rows.fnDecimalDigitsMatchesSignedDigitsShapeRow.holds Try.pinned (OpenSpec.ofChange Rows.fnDecimalDigitsMatchesSignedDigitsShapeSpec) :=
  OpenClaim.holds_of_wide 3 Try.f3 rfl rfl rfl rfl rfl rfl rfl ⟨rfl, rfl, rfl, rfl, rfl⟩ rfl rfl rfl rfl rfl (by kernel_rfl) Try.func3 (by kernel_rfl)
    (of_decide_eq_true (by kernel_rfl)) (by unfold Func.isWrapper; first | (rw [if_pos (by decide +kernel)]; kernel_rfl) | (rw [if_neg (by decide +kernel)]; exact ⟨rfl, rfl⟩))
    (fun os started H enc _ => lifted os started H enc)

/-- ████ THE STATEMENT ████ -/
theorem proved : Rows.FnDecimalDigitsMatchesSignedDigitsShapeSaid :=
  over
#print axioms proved
end Go.Proofs.Qxb6605310a.fnDecimalDigitsMatchesSignedDigitsShape
