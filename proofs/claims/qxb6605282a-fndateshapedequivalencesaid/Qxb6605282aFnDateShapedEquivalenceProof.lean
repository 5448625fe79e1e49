/-
  'Rows.FnDateShapedEquivalenceSaid' PROVED.
-/
import Derived.Test.Qxb6605282aRows
import Derived.Test.Qxb6605282aDsWalks
import Derived.WalkKit
import Derived.ProofKit
import Derived.OpenShut
import Derived.ShutString
namespace Go.Proofs.Qxb6605282a.fnDateShapedEquivalence
open Go.ChangeShapes Go.WideShapes Go.ChangeAt Go.RowKit
open Go.ChangeMaps (open_string shut_string)
open Go.Proofs.Qxb6605282a.Plain
set_option linter.unusedVariables false      -- a walk need not use every 'w<i>' (that an integer argument fits its kind)

theorem own : ownKnob Try.prog.godebug = none := by kernel_rfl

/-! ### STEP 1: THE WALK: the Go text returns true. 'Grown w w'': the world has at most new blocks (Derived/RowKit3.lean). Part the cases AHEAD of 'go_enter' where a test parts the walk; take each callee by a contract of your own. -/
theorem guard_yes (a b c : ByteArray) (h : (a.size : Int) + b.size + c.size ≤ 1048576) (w : World) :
    Calls Try.prog 18 #[.string a, .string b, .string c] w fun e w' => e = .returned (.bool true) ∧ w' = w := by
  go_enter Try.func18, Try.ntmps18
  go_wp2
  go_ret
  exact ⟨rfl, rfl⟩

theorem guard_no (a b c : ByteArray) (w0 : a.size ≤ maxLen) (w1 : b.size ≤ maxLen) (w2 : c.size ≤ maxLen) (h : 1048576 < (a.size : Int) + b.size + c.size) (w : World) :
    Calls Try.prog 18 #[.string a, .string b, .string c] w fun e w' => e = .returned (.bool false) ∧ w' = w := by
  unfold maxLen at w0 w1 w2
  go_enter Try.func18, Try.ntmps18
  go_wp2
  all_goals
    go_ret
    exact ⟨rfl, rfl⟩

theorem zz_any (t l : ByteArray) (ht : t.size ≤ maxLen) (hl : l.size ≤ maxLen) (w : World) :
    Calls Try.prog 16 #[.string t, .string l] w fun e w' => e = .returned (.bool (shaped t l)) ∧ ∃ n, w' = w.drewN n := by
  go_enter Try.func16, Try.ntmps16
  go_wp2_with (go_at_call 24; refine (Ds.dateShaped_any t l ht hl _).mono ?_; rintro e w' ⟨rfl, n, rfl⟩)
  go_ret
  exact ⟨rfl, _, rfl⟩

theorem grown_drewN (w : World) (n : Nat) : Grown w (w.drewN n) := by
  induction n with
  | zero => exact Grown.refl _
  | succ n ih => exact Grown.drew ih

theorem walk (a0 : ByteArray) (a1 : ByteArray) (a2 : ByteArray) (w0 : a0.size ≤ maxLen) (w1 : a1.size ≤ maxLen) (w2 : a2.size ≤ maxLen) (w : World) :
    Calls Try.prog 6 #[.string a0, .string a1, .string a2] w fun e w' => e = .returned (.bool true) ∧ Grown w w' := by
  by_cases h : (a0.size : Int) + a1.size + a2.size ≤ 1048576
  · go_enter Try.func6, Try.ntmps6
    go_wp2_with fail
    refine (guard_yes a0 a1 a2 h _).mono ?_
    rintro e w' ⟨rfl, rfl⟩
    go_wp2_with fail
    refine (zz_any a0 a1 w0 w1 _).mono ?_
    rintro e w' ⟨rfl, n1, rfl⟩
    go_wp2_with fail
    refine (zz_any a1 a0 w1 w0 _).mono ?_
    rintro e w' ⟨rfl, n2, rfl⟩
    go_wp2_with fail
    refine (zz_any a1 a2 w1 w2 _).mono ?_
    rintro e w' ⟨rfl, n3, rfl⟩
    go_wp2_with fail
    refine (zz_any a0 a2 w0 w2 _).mono ?_
    rintro e w' ⟨rfl, n4, rfl⟩
    go_wp2_with fail
    refine (zz_any a0 a0 w0 w0 _).mono ?_
    rintro e w' ⟨rfl, n5, rfl⟩
    have hr := shaped_refl a0
    have hc : shaped a1 a0 = shaped a0 a1 := shaped_comm a1 a0
    have ht := shaped_trans a0 a1 a2
    cases hab : shaped a0 a1
    · rw [hab] at hc
      clear ht
      go_wp2
      go_ret
      exact ⟨rfl, by first | exact grown_drewN _ _ | (simp only [World.drewN_drewN]; exact grown_drewN _ _)⟩
    · rw [hab] at hc
      cases hbc : shaped a1 a2
      · clear ht
        go_wp2
        go_ret
        exact ⟨rfl, by first | exact grown_drewN _ _ | (simp only [World.drewN_drewN]; exact grown_drewN _ _)⟩
      · have hac := ht hab hbc
        clear ht
        go_wp2
        go_ret
        exact ⟨rfl, by first | exact grown_drewN _ _ | (simp only [World.drewN_drewN]; exact grown_drewN _ _)⟩
  · go_enter Try.func6, Try.ntmps6
    go_wp2_with fail
    refine (guard_no a0 a1 a2 w0 w1 w2 h _).mono ?_
    rintro e w' ⟨rfl, rfl⟩
    go_wp2
    go_ret
    exact ⟨rfl, Grown.refl _⟩

/-! ### THE ROW's STEP: WRITTEN OUT: LEAVE IT -/
set_option maxRecDepth 100000 in
theorem lifted (os : Os) (started : os.Started) (H : Type) (enc : TypeId × Value → H) :
    ReturnsInHanded {} Try.checked os 6 .any (Rows.fnDateShapedEquivalenceSpec.pre6 enc Try.prog Try.f6 Rows.fnDateShapedEquivalenceRow.domain false) (Rows.fnDateShapedEquivalenceSpec.post enc Try.prog Try.f6 false true false false) := by
  refine returnsInHanded_of_change (C := Try.checked) own started (by kernel_rfl) Try.func6
    (ChangeSpec.witness6 (enc := enc) (C := Try.checked) false ⟨#[], #[.string ByteArray.empty, .string ByteArray.empty, .string ByteArray.empty], []⟩ 8 (by kernel_rfl) (by kernel_rfl) (by kernel_rfl) (by kernel_rfl)) ?_
  intro W base args ds gs before hval0 hW hcnd _
  have hval : ∀ (j : Nat) t v, Try.f6.params[j]? = some t → args[j]? = some v → Value.okWide Try.prog W .any base t v := hval0
  have hW' := hW
  obtain ⟨p, q, hA0, hV, rfl, hfz, hnd⟩ := hW
  have hA : DataW.TrodAll enc Try.prog W 0 (fun _ => true) true Try.f6.params.toList args.toList ds p := hA0
  rw [Try.params6] at hA hval
  obtain ⟨v0, vs0, d0, ds0, p0, q0, hargs, rfl, rfl, h0, r0⟩ := trodAll_cons hA
  obtain ⟨v1, vs1, d1, ds1, p1, q1, rfl, rfl, rfl, h1, r1⟩ := trodAll_cons r0
  obtain ⟨v2, vs2, d2, ds2, p2, q2, rfl, rfl, rfl, h2, r2⟩ := trodAll_cons r1
  obtain ⟨rfl, rfl, rfl⟩ := trodAll_nil r2
  obtain rfl : args = #[v0, v1, v2] := by cases args; simp_all
  obtain ⟨rfl, rfl⟩ := trodVars_none hV
  obtain ⟨a0, rfl, rfl, rfl, w0⟩ := open_string Try.underlying9 (hval 0 9 v0 rfl rfl) h0
  obtain ⟨a1, rfl, rfl, rfl, w1⟩ := open_string Try.underlying9 (hval 1 9 v1 rfl rfl) h1
  obtain ⟨a2, rfl, rfl, rfl, w2⟩ := open_string Try.underlying9 (hval 2 9 v2 rfl rfl) h2
  clear hA0 hval0
  simp only [List.append_nil] at hW'
  refine (walk a0 a1 a2 w0 w1 w2 W).mono fun e W' ⟨he, hg⟩ => ?_
  subst he
  exact ⟨_, rfl, post_of_same (pa := []) (pv := []) hW' (fun _ _ _ => (trodAll_cons_mk (shut_bool Try.underlying4 _) trodAll_mk0)) (fun sp _ => (trodAll_cons_mk (shut_string Try.underlying9 w0) (trodAll_cons_mk (shut_string Try.underlying9 w1) (trodAll_cons_mk (shut_string Try.underlying9 w2) trodAll_mk0)))) (fun _ _ => rfl) rfl
    (hg.frame _) hg.2.1 (ok_one (by kernel_rfl) rfl (okWide_bool_mk Try.underlying4 _))⟩

theorem over : Rows.fnDateShapedEquivalenceRow.holds Try.pinned (OpenSpec.ofChange Rows.fnDateShapedEquivalenceSpec) :=
  OpenClaim.holds_of_wide 6 Try.f6 rfl rfl rfl rfl rfl rfl rfl ⟨rfl, rfl, rfl, rfl, rfl⟩ rfl rfl rfl rfl rfl (by kernel_rfl) Try.func6 (by kernel_rfl)
    (of_decide_eq_true (by kernel_rfl)) (by unfold Func.isWrapper; first | (rw [if_pos (by decide +kernel)]; kernel_rfl) | (rw [if_neg (by decide +kernel)]; exact ⟨rfl, rfl⟩))
    (fun os started H enc _ => lifted os started H enc)

/-- ████ THE STATEMENT ████ -/
theorem proved : Rows.FnDateShapedEquivalenceSaid :=
  over
#print axioms proved
end Go.Proofs.Qxb6605282a.fnDateShapedEquivalence
