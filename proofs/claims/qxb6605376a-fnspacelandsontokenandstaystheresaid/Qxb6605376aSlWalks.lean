/-
  THE WALK of FnSpaceLandsOnTokenAndStaysThere (6).
-/
import Derived.Test.Qxb6605376aSpWalks
namespace Go.Proofs.Qxb6605376a.Sl
open Go.RowKit
open Go.Proofs.Qxb6605376a.SpP Go.Proofs.Qxb6605376a.Sp
set_option linter.unusedVariables false

theorem guard_yes (a : Option Addr) (l c : Nat) (i : Int) (ch : Bool) (h : (l : Int) ≤ 1048576) (w : World) :
    Calls Try.prog 14 #[.slice a l c, .int .i64 i, .bool ch] w fun e w' => e = .returned (.bool true) ∧ w' = w := by
  go_enter Try.func14, Try.ntmps14
  go_wp2
  go_ret
  exact ⟨rfl, rfl⟩

theorem guard_no (a : Option Addr) (l c : Nat) (i : Int) (ch : Bool) (h : 1048576 < (l : Int)) (w : World) :
    Calls Try.prog 14 #[.slice a l c, .int .i64 i, .bool ch] w fun e w' => e = .returned (.bool false) ∧ w' = w := by
  go_enter Try.func14, Try.ntmps14
  go_wp2
  go_ret
  exact ⟨rfl, rfl⟩

set_option maxRecDepth 10000 in
set_option maxHeartbeats 1000000 in
theorem walk (a : Option Addr) (c : Nat) (zs : List Int) (ii : Int) (ch : Bool) (w : World) (hv : View w a zs) (hl : zs.length ≤ maxLen) (hi2 : ii ≤ 9223372036854775807) :
    Calls Try.prog 6 #[.slice a zs.length c, .int .i64 ii, .bool ch] w fun e w' => e = .returned (.bool true) ∧ Below w.heap.size w w' := by
  have q22 := neq22
  obtain ⟨i0, hi, hz0, hz1, hz2⟩ := info_parts info5
  by_cases h : (zs.length : Int) ≤ 1048576
  · go_enter Try.func6, Try.ntmps6
    go_wp2_with fail
    refine (guard_yes a zs.length c ii ch h _).mono ?_
    rintro e w' ⟨rfl, rfl⟩
    by_cases hneg : ii < 0
    · go_wp2
      go_ret
      exact ⟨rfl, Below.refl _ _⟩
    obtain ⟨i, rfl⟩ : ∃ i : Nat, ii = i := ⟨ii.toNat, by omega⟩
    go_upto_if 24 with fail
    go_cut [0, 7] (fun t0 t7 wc => ∃ a' c', t0 = .slice a' zs.length c' ∧ View wc a' zs ∧ Below w'.heap.size w' wc)
    case first =>
      cases a with
      | none =>
        go_wp2
        go_meet
        exact ⟨none, c, rfl, hv, Below.refl _ _⟩
      | some x =>
        go_wp2_with (at_make; refine wpList_make_full _ rfl _ _ 22 rfl w'.heap.size 5 i0 (.int .u8 0) 1 Try.underlying22 hi hz0 hz1 .i64 .i64 _ _ zs.length rfl rfl rfl rfl (by rw [hz2]; omega) (by unfold maxLen; omega) (Nat.le_refl _) ?_)
        intro w3 hown hgr
        have hlow := Below.grown (Below.refl w'.heap.size w') hgr (Nat.le_refl _) (fun k h => by cases h)
        obtain ⟨cur, hg, hcl⟩ := row_of hown
        have hsrc := src_cells (hv.below hlow (Nat.le_refl _))
        have HSRC : Hid (∀ j v, (zs.map (Value.int .u8))[j]? = some v → w3.cell? (x.add j) = some v) := hsrc
        have HG : Hid (w3.heap[w'.heap.size]? = some (.cells cur.toArray 5 (0, 0))) := hg
        have HCL : Hid (cur.length = zs.length) := hcl
        clear hgr hown hsrc hg hcl
        go_wp2_with (refine wpList_copy_splice rfl (.tmp 28) (.tmp 29) 22 22 rfl 5 Try.underlying22 size5 (some ⟨w'.heap.size, 0, none⟩) (some x) zs.length zs.length zs.length c rfl rfl w'.heap.size 0 cur 5 HG.out (zs.map (Value.int .u8)) (by simp) (fun _ => ⟨rfl, x, rfl, HSRC.out⟩) (by rw [HCL.out]; simp) (ints_one zs) w'.heap.size w' hlow (Nat.le_refl _) ?_)
        intro w4 HG4 hb4
        have hv4 := view_copy HCL.out HG4.out
        clear HG4 HG HSRC HCL hlow
        go_wp2
        go_meet
        exact ⟨_, _, rfl, hv4, hb4⟩
    case rest =>
      obtain ⟨a', c', rfl, hv', hb⟩ := hcut
      clear hv
      go_wp2_with fail
      refine (zspace_any c' a' zs i ch _ hv' (by omega) (by omega)).mono ?_
      rintro e w2 ⟨rfl, hb2⟩
      have hbw := hb.trans (hb2.mono hb.size)
      have hv2 := hv'.below hb2 (Nat.le_refl _)
      clear hv' hb hb2
      by_cases hil : i < zs.length
      · have hge := land_ge zs i
        have hle := land_le zs i (by omega)
        have hpass := land_passed zs i
        have hat := land_at zs i (by omega)
        have hll := land_land zs i (by omega)
        obtain ⟨L, eL⟩ : ∃ L, L = land zs i := ⟨_, rfl⟩
        rw [← eL] at hge hle hpass hat hll ⊢
        clear eL
        have HP : Hid (∀ k, i ≤ k → k < L → sp (zs.getD k 0) = true) := hpass
        have HA : Hid (L < zs.length → sp (zs.getD L 0) = false) := hat
        have HLL : Hid (land zs L = L) := hll
        clear hpass hat hll
        have d0 : decide (zs.length ≤ i) = false := decide_eq_false (by omega)
        have d1 : decide (L < i) = false := decide_eq_false (by omega)
        have d2 : decide (zs.length < L) = false := decide_eq_false (by omega)
        go_wp2_with fail
        clear d0 d1 d2
        go_loop [10] (fun k => ∃ t : Nat, i ≤ t ∧ t ≤ L ∧ k = .int .i64 t) (fun k => L - (intOf k).toNat)
        case atStart => exact ⟨i, Nat.le_refl _, hge, rfl⟩
        case round =>
          obtain ⟨t, hit, htL, rfl⟩ := hrel
          by_cases hlt : t < L
          · have htl : t < zs.length := by omega
            obtain ⟨b, off, rfl, hc⟩ := hv2 t htl
            have hsp := HP.out t hit hlt
            obtain ⟨x, ex⟩ : ∃ x, x = zs.getD t 0 := ⟨_, rfl⟩
            rw [← ex] at hc hsp
            clear ex hv2
            have HSP : Hid (sp x = true) := hsp
            clear hsp
            go_wp2_with fail
            refine (isp_any x _).mono ?_
            rintro e w3 ⟨rfl, rfl⟩
            have hsp := HSP.out
            go_wp2
            go_round
            case rel => exact ⟨t + 1, by omega, by omega, by go_num⟩
            case measure => simp [intOf]; omega
          · obtain rfl : t = L := by omega
            by_cases hLl : t < zs.length
            · have hsp := HA.out hLl
              obtain ⟨b, off, rfl, hc⟩ := hv2 t hLl
              obtain ⟨x, ex⟩ : ∃ x, x = zs.getD t 0 := ⟨_, rfl⟩
              rw [← ex] at hc hsp
              clear ex
              have HSP : Hid (sp x = false) := hsp
              clear hsp
              go_wp2_with fail
              refine (isp_any x _).mono ?_
              rintro e w3 ⟨rfl, rfl⟩
              have hsp := HSP.out
              go_wp2_with fail
              refine (zspace_any c' _ zs t ch _ hv2 (by omega) (by omega)).mono ?_
              rintro e w4 ⟨rfl, hb4⟩
              rw [HLL.out]
              go_wp2
              go_ret
              exact ⟨rfl, hbw.trans (hb4.mono hbw.size)⟩
            · go_wp2_with fail
              refine (zspace_any c' _ zs t ch _ hv2 (by omega) (by omega)).mono ?_
              rintro e w4 ⟨rfl, hb4⟩
              rw [HLL.out]
              go_wp2
              go_ret
              exact ⟨rfl, hbw.trans (hb4.mono hbw.size)⟩
      · have HL : Hid (land zs i = i) := land_out zs i (by omega)
        rw [HL.out]
        go_wp2
        go_ret
        exact ⟨rfl, hbw⟩
  · go_enter Try.func6, Try.ntmps6
    go_wp2_with fail
    refine (guard_no a zs.length c ii ch (by omega) _).mono ?_
    rintro e w' ⟨rfl, rfl⟩
    go_wp2
    go_ret
    exact ⟨rfl, Below.refl _ _⟩
end Go.Proofs.Qxb6605376a.Sl
