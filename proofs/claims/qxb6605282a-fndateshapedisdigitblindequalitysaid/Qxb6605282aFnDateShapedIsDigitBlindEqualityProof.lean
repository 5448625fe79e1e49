/-
  'Rows.FnDateShapedIsDigitBlindEqualitySaid' PROVED.
-/
import Derived.Test.Qxb6605282aRows
import Derived.Test.Qxb6605282aDsWalks
import Derived.Test.Qxb6605282aDzWalks
import Derived.WalkKit
import Derived.WalkSpells
import Derived.WalkLawsBesides
import Derived.Laws.IdiomStrings
import Derived.Deep.RegionWith
import Derived.Deep.Draws
import Derived.Outline
import Derived.ProofKit
import Derived.OpenShut
import Derived.ShutString
namespace Go.Proofs.Qxb6605282a.fnDateShapedIsDigitBlindEquality
open Go.ChangeShapes Go.WideShapes Go.ChangeAt Go.RowKit
open Go.ChangeMaps (open_string shut_string)
open Go.Proofs.Qxb6605282a.Plain
set_option linter.unusedVariables false      -- a walk need not use every 'w<i>' (that an integer argument fits its kind)

theorem own : ownKnob Try.prog.godebug = none := by kernel_rfl

theorem guard_yes (a b : ByteArray) (h : (a.size : Int) + b.size ≤ 1048576) (w : World) :
    Calls Try.prog 15 #[.string a, .string b] w fun e w' => e = .returned (.bool true) ∧ w' = w := by
  go_enter Try.func15, Try.ntmps15
  go_wp2
  go_ret
  exact ⟨rfl, rfl⟩

theorem guard_no (a b : ByteArray) (w0 : a.size ≤ maxLen) (w1 : b.size ≤ maxLen) (h : 1048576 < (a.size : Int) + b.size) (w : World) :
    Calls Try.prog 15 #[.string a, .string b] w fun e w' => e = .returned (.bool false) ∧ w' = w := by
  unfold maxLen at w0 w1
  go_enter Try.func15, Try.ntmps15
  go_wp2
  all_goals
    go_ret
    exact ⟨rfl, rfl⟩

theorem zz_any (t l : ByteArray) (ht : t.size ≤ maxLen) (hl : l.size ≤ maxLen) (w : World) :
    Calls Try.prog 16 #[.string t, .string l] w fun e w' => e = .returned (.bool (shaped t l)) ∧ ∃ n, w' = w.drewN n := by
  go_enter Try.func16, Try.ntmps16
  go_wp2_with (go_at_call 24; refine (Ds.dateShaped_any t l ht hl _).mono ?_; rintro e w' ⟨rfl, n, rfl⟩)
  go_ret
  exact ⟨rfl, _, rfl⟩

/-- The text with every digit read as '0'. -/
def zeroed (s : ByteArray) : ByteArray := ⟨(s.data.toList.map nz).toArray⟩

theorem run_zeroed (s : ByteArray) (g : Nat) (W : World) (hc : ∀ j, (h : j < s.size) → W.cell? ⟨g, j, none⟩ = some (.int .u8 (nz s[j]).toNat)) :
    (convert 23 9 (.slice (some ⟨g, 0, none⟩) s.size s.size)).run Try.prog W = .ok (.string (zeroed s)) W := by
  have hlen : (s.data.toList.map nz).length = s.size := by simp
  have h := run_convert_bytes_back (P := Try.prog) W 23 9 5 ⟨g, 0, none⟩ s.size (s.data.toList.map nz) Try.underlying23 Try.underlying5 Try.underlying9 (fun j hj => by
    have hj' : j < s.size := by omega
    have e := hc j hj'
    rw [add_plain, Nat.zero_add, e]
    simp
    rfl)
  rw [hlen] at h
  exact h

theorem zeroed_eq (t l : ByteArray) : ((zeroed t).toList == (zeroed l).toList) = shaped t l := by
  have e : ∀ s : ByteArray, (zeroed s).toList = s.data.toList.map nz := fun s => by
    rw [ByteArray.toList_eq]
    rfl
  rw [e, e]
  unfold shaped
  rw [Bool.eq_iff_iff]
  simp

theorem digits' (s : ByteArray) (hs : s.size ≤ 1048576) (w : World) :
    Calls Try.prog 17 #[.string s] w fun e w' => ∃ g, e = .returned (.slice (some ⟨g, 0, none⟩) s.size s.size) ∧ Below w.heap.size w w' ∧ g < w'.heap.size ∧
      ∀ j, (h : j < s.size) → w'.cell? ⟨g, j, none⟩ = some (.int .u8 (nz s[j]).toNat) :=
  (Dz.digits_any s hs w).mono fun e w' ⟨a, b, c, d⟩ => ⟨_, a, b, c, d⟩

theorem walk (a0 : ByteArray) (a1 : ByteArray) (w0 : a0.size ≤ maxLen) (w1 : a1.size ≤ maxLen) (w : World) :
    Calls Try.prog 5 #[.string a0, .string a1] w fun e w' => e = .returned (.bool true) ∧ Below w.heap.size w w' := by
  by_cases h : (a0.size : Int) + a1.size ≤ 1048576
  · go_enter Try.func5, Try.ntmps5
    go_wp2_with fail
    refine (guard_yes a0 a1 h _).mono ?_
    rintro e w' ⟨rfl, rfl⟩
    go_wp2_with fail
    go_region_with (first
      | (go_at_call 16; refine (zz_any a0 a1 w0 w1 _).mono ?_; rintro e wx ⟨rfl, n1, rfl⟩)
      | (go_at_call_of 17 (Value.string a0); refine (digits' a0 (by omega) _).mono ?_; rintro e wA ⟨gA, rfl, hbA, hgA, hcA⟩; have cA := run_zeroed a0 gA wA hcA)
      | (go_at_call_of 17 (Value.string a1); refine (digits' a1 (by omega) _).mono ?_; rintro e wB ⟨gB, rfl, hbB, hgB, hcB⟩; have cB := run_zeroed a1 gB wB hcB; have cA' := run_zeroed a0 gA wB (fun j h => (hbB.cell (p := ⟨gA, j, none⟩) hgA).trans (hcA j h))))
    all_goals
      go_wp2
      go_ret
      refine ⟨?_, ?_⟩
      · exact Ds.ret_bool (a := (shaped a0 a1 == ((zeroed a0).toList == (zeroed a1).toList))) (by rw [zeroed_eq]; simp)
      · exact Below.trans (b := wA) ⟨hbA.os, hbA.tape, hbA.output, hbA.size, hbA.block⟩ (hbB.mono hbA.size)
  · go_enter Try.func5, Try.ntmps5
    go_wp2_with fail
    refine (guard_no a0 a1 w0 w1 (by omega) _).mono ?_
    rintro e w' ⟨rfl, rfl⟩
    go_wp2
    go_ret
    exact ⟨rfl, Below.refl _ _⟩

/-! ### THE ROW's STEP: WRITTEN OUT: LEAVE IT -/
set_option maxRecDepth 100000 in
theorem lifted (os : Os) (started : os.Started) (H : Type) (enc : TypeId × Value → H) :
    ReturnsInHanded {} Try.checked os 5 .any (Rows.fnDateShapedIsDigitBlindEqualitySpec.pre6 enc Try.prog Try.f5 Rows.fnDateShapedIsDigitBlindEqualityRow.domain false) (Rows.fnDateShapedIsDigitBlindEqualitySpec.post enc Try.prog Try.f5 false true false false) := by
  refine returnsInHanded_of_change (C := Try.checked) own started (by kernel_rfl) Try.func5
    (ChangeSpec.witness6 (enc := enc) (C := Try.checked) false ⟨#[], #[.string ByteArray.empty, .string ByteArray.empty], []⟩ 8 (by kernel_rfl) (by kernel_rfl) (by kernel_rfl) (by kernel_rfl)) ?_
  intro W base args ds gs before hval0 hW hcnd _
  have hval : ∀ (j : Nat) t v, Try.f5.params[j]? = some t → args[j]? = some v → Value.okWide Try.prog W .any base t v := hval0
  have hW' := hW
  obtain ⟨p, q, hA0, hV, rfl, hfz, hnd⟩ := hW
  have hA : DataW.TrodAll enc Try.prog W 0 (fun _ => true) true Try.f5.params.toList args.toList ds p := hA0
  rw [Try.params5] at hA hval
  obtain ⟨v0, vs0, d0, ds0, p0, q0, hargs, rfl, rfl, h0, r0⟩ := trodAll_cons hA
  obtain ⟨v1, vs1, d1, ds1, p1, q1, rfl, rfl, rfl, h1, r1⟩ := trodAll_cons r0
  obtain ⟨rfl, rfl, rfl⟩ := trodAll_nil r1
  obtain rfl : args = #[v0, v1] := by cases args; simp_all
  obtain ⟨rfl, rfl⟩ := trodVars_none hV
  obtain ⟨a0, rfl, rfl, rfl, w0⟩ := open_string Try.underlying9 (hval 0 9 v0 rfl rfl) h0
  obtain ⟨a1, rfl, rfl, rfl, w1⟩ := open_string Try.underlying9 (hval 1 9 v1 rfl rfl) h1
  clear hA0 hval0
  refine (walk a0 a1 w0 w1 W).mono fun e W' ⟨he, bel⟩ => ?_
  subst he
  exact ⟨_, rfl, _, _, _, [], _, [], hW', trodAll_mk1 (shut_bool Try.underlying4 _), (trodAll_cons_mk (shut_string Try.underlying9 w0) (trodAll_cons_mk (shut_string Try.underlying9 w1) trodAll_mk0)), rfl, bel.frame _, fun h => by cases h⟩

theorem over : Rows.fnDateShapedIsDigitBlindEqualityRow.holds Try.pinned (OpenSpec.ofChange Rows.fnDateShapedIsDigitBlindEqualitySpec) :=
  OpenClaim.holds_of_wide 5 Try.f5 rfl rfl rfl rfl rfl rfl rfl ⟨rfl, rfl, rfl, rfl, rfl⟩ rfl rfl rfl rfl rfl (by kernel_rfl) Try.func5 (by kernel_rfl)
    (of_decide_eq_true (by kernel_rfl)) (by unfold Func.isWrapper; first | (rw [if_pos (by decide +kernel)]; kernel_rfl) | (rw [if_neg (by decide +kernel)]; exact ⟨rfl, rfl⟩))
    (fun os started H enc _ => lifted os started H enc)

/-- ████ THE STATEMENT ████ -/
theorem proved : Rows.FnDateShapedIsDigitBlindEqualitySaid :=
  over
#print axioms proved
end Go.Proofs.Qxb6605282a.fnDateShapedIsDigitBlindEquality
