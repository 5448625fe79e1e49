/-
  THE WALK of FnSpaceStopsAtFirstNonSpace (5).
-/
import Derived.Test.Qxb6605376aSpWalks
namespace Go.Proofs.Qxb6605376a.Ss
open Go.RowKit
open Go.Proofs.Qxb6605376a.SpP Go.Proofs.Qxb6605376a.Sp
set_option linter.unusedVariables false

theorem guard_yes (a : Option Addr) (l c : Nat) (i : Int) (ch : Bool) (h : (l : Int) ≤ 1048576) (w : World) :
    Calls Try.prog 11 #[.slice a l c, .int .i64 i, .bool ch] w fun e w' => e = .returned (.bool true) ∧ w' = w := by
  go_enter Try.func11, Try.ntmps11
  go_wp2
  go_ret
  exact ⟨rfl, rfl⟩

theorem guard_no (a : Option Addr) (l c : Nat) (i : Int) (ch : Bool) (h : 1048576 < (l : Int)) (w : World) :
    Calls Try.prog 11 #[.slice a l c, .int .i64 i, .bool ch] w fun e w' => e = .returned (.bool false) ∧ w' = w := by
  go_enter Try.func11, Try.ntmps11
  go_wp2
  go_ret
  exact ⟨rfl, rfl⟩

set_option maxHeartbeats 1000000 in
theorem walk (a : Option Addr) (c : Nat) (zs : List Int) (ii : Int) (ch : Bool) (w : World) (hv : View w a zs) (hl : zs.length ≤ maxLen) (hi2 : ii ≤ 9223372036854775807) :
    Calls Try.prog 5 #[.slice a zs.length c, .int .i64 ii, .bool ch] w fun e w' => e = .returned (.bool true) ∧ Below w.heap.size w w' := by
  have q22 := neq22
  obtain ⟨i0, hi, hz0, hz1, hz2⟩ := info_parts info5
  by_cases h : (zs.length : Int) ≤ 1048576
  · go_enter Try.func5, Try.ntmps5
    go_wp2_with fail
    refine (guard_yes a zs.length c ii ch h _).mono ?_
    rintro e w' ⟨rfl, rfl⟩
    by_cases hneg : ii < 0
    · go_wp2
      go_ret
      exact ⟨rfl, Below.refl _ _⟩
    obtain ⟨i, rfl⟩ : ∃ i : Nat, ii = i := ⟨ii.toNat, by omega⟩
    go_upto_if 23 with fail
    go_cut [0, 7] (fun t0 t7 wc => ∃ a' c', t0 = .slice a' zs.length c' ∧ View wc a' zs ∧ Below w'.heap.size w' wc)
    case first =>
      cases a with
      | none =>
        go_wp2
        go_meet
        exact ⟨none, c, rfl, hv, Below.refl _ _⟩
      | some x =>
        go_wp2_with (at_make; refine wpList_make_full _ rfl _ _ 22 rfl w'.heap.size 5 i0 (.int .u8 0) 1 Try.underlying22 hi hz0 hz1 .i64 .i64 _ _ zs.length rfl rfl rfl rfl (by rw [hz2]; omega) (by unfold maxLen; omega) (Nat.le_refl _) ?_)
        intro w3 hown hgr
        have hlow := Below.grown (Below.refl w'.heap.size w') hgr (Nat.le_refl _) (fun k h => by cases h)
        obtain ⟨cur, hg, hcl⟩ := row_of hown
        have hsrc := src_cells (hv.below hlow (Nat.le_refl _))
        have HSRC : Hid (∀ j v, (zs.map (Value.int .u8))[j]? = some v → w3.cell? (x.add j) = some v) := hsrc
        have HG : Hid (w3.heap[w'.heap.size]? = some (.cells cur.toArray 5 (0, 0))) := hg
        have HCL : Hid (cur.length = zs.length) := hcl
        clear hgr hown hsrc hg hcl
        go_wp2_with (refine wpList_copy_splice rfl (.tmp 27) (.tmp 28) 22 22 rfl 5 Try.underlying22 size5 (some ⟨w'.heap.size, 0, none⟩) (some x) zs.length zs.length zs.length c rfl rfl w'.heap.size 0 cur 5 HG.out (zs.map (Value.int .u8)) (by simp) (fun _ => ⟨rfl, x, rfl, HSRC.out⟩) (by rw [HCL.out]; simp) (ints_one zs) w'.heap.size w' hlow (Nat.le_refl _) ?_)
        intro w4 HG4 hb4
        have hv4 := view_copy HCL.out HG4.out
        clear HG4 HG HSRC HCL hlow
        go_wp2
        go_meet
        exact ⟨_, _, rfl, hv4, hb4⟩
    case rest =>
      obtain ⟨a', c', rfl, hv', hb⟩ := hcut
      clear hv
      go_upto_if 35 with fail
      obtain ⟨wk, rfl⟩ : ∃ wk : World, wk = wc := ⟨_, rfl⟩
      go_cut [8, 9] (fun t8 t9 wd => t8 = .int .i64 (land zs i : Nat) ∧ wd = wk)
      case first =>
        by_cases hil : i < zs.length
        · have hd : decide (i < zs.length) = true := decide_eq_true hil
          rw [hd]
          clear hd
          go_wp2
          go_loop [8, 9] (fun wv k => ∃ j W : Nat, i ≤ j ∧ j ≤ zs.length ∧ k = .int .i64 ((j : Int) - 1) ∧ wv = .int .i64 W ∧ Hid (W = land zs j)) (fun _ k => (intOf k + 1).toNat)
          case atStart => exact ⟨zs.length, zs.length, by omega, Nat.le_refl _, rfl, rfl, (land_out zs _ (Nat.le_refl _)).symm⟩
          case round =>
            obtain ⟨j, W, hij, hjl, rfl, rfl, hW⟩ := hrel
            by_cases hlt : i < j
            · obtain ⟨t, rfl⟩ : ∃ t, j = t + 1 := ⟨j - 1, by omega⟩
              have htl : t < zs.length := by omega
              obtain ⟨b, off, rfl, hc⟩ := hv' t htl
              have hgo := land_go zs t htl
              have hst := land_stop zs t htl
              obtain ⟨x, ex⟩ : ∃ x, x = zs.getD t 0 := ⟨_, rfl⟩
              rw [← ex] at hc hgo hst
              have HG : Hid (sp x = true → land zs t = land zs (t + 1)) := hgo
              have HS : Hid (sp x = false → land zs t = t) := hst
              clear ex hgo hst hv'
              have e1 : ((t + 1 : Nat) : Int) - 1 = (t : Int) := by omega
              rw [e1]
              clear e1
              go_wp2_with fail
              refine (isp_any x _).mono ?_
              rintro e w2 ⟨rfl, rfl⟩
              cases hsp : sp x
              · have HZ := HS.out hsp
                clear HG HS hW
                go_wp2
                go_round
                case rel => exact ⟨t, t, by omega, by omega, rfl, rfl, HZ.symm⟩
                case measure => simp [intOf]
              · have HZ := (HG.out hsp).trans hW.out.symm
                clear HG HS hW
                go_wp2
                go_round
                case rel => exact ⟨t, W, by omega, by omega, rfl, rfl, HZ.symm⟩
                case measure => simp [intOf]
            · obtain rfl : i = j := by omega
              go_wp2
              go_meet
              exact ⟨by rw [hW.out], rfl⟩
        · have HL : Hid (i = land zs i) := (land_out zs i (by omega)).symm
          go_wp2
          go_meet
          exact ⟨congrArg (fun n : Nat => Value.int .i64 n) HL.out, rfl⟩
      case rest =>
        obtain ⟨rfl, rfl⟩ := hcut
        go_wp2_with fail
        refine (zspace_any c' a' zs i ch _ hv' (by omega) (by omega)).mono ?_
        rintro e w2 ⟨rfl, hb2⟩
        go_wp2
        go_ret
        exact ⟨rfl, hb.trans (hb2.mono hb.size)⟩
  · go_enter Try.func5, Try.ntmps5
    go_wp2_with fail
    refine (guard_no a zs.length c ii ch (by omega) _).mono ?_
    rintro e w' ⟨rfl, rfl⟩
    go_wp2
    go_ret
    exact ⟨rfl, Below.refl _ _⟩
end Go.Proofs.Qxb6605376a.Ss
