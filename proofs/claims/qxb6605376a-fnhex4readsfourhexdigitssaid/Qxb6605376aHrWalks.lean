/-
  THE WALK of FnHex4ReadsFourHexDigits (3).
-/
import Derived.Test.Qxb6605376aHvWalks
import Derived.Test.Qxb6605376aSpWalks
namespace Go.Proofs.Qxb6605376a.Hr
open Go.RowKit
open Go.Proofs.Qxb6605376a.Plain (hv hv_le hv_cases val)
open Go.Proofs.Qxb6605376a.Hx (zhex4_any)
open Go.Proofs.Qxb6605376a.Hv (hexValue_any)
open Go.Proofs.Qxb6605376a.Sp (View info5 size5 neq22 view_copy src_cells row_of ints_one lt_of_cell)
set_option linter.unusedVariables false

theorem guard_yes (a : Option Addr) (l c : Nat) (h : (l : Int) ≤ 1048576) (w : World) :
    Calls Try.prog 7 #[.slice a l c] w fun e w' => e = .returned (.bool true) ∧ w' = w := by
  go_enter Try.func7, Try.ntmps7
  go_wp2
  go_ret
  exact ⟨rfl, rfl⟩

theorem guard_no (a : Option Addr) (l c : Nat) (h : 1048576 < (l : Int)) (w : World) :
    Calls Try.prog 7 #[.slice a l c] w fun e w' => e = .returned (.bool false) ∧ w' = w := by
  go_enter Try.func7, Try.ntmps7
  go_wp2
  go_ret
  exact ⟨rfl, rfl⟩

/-- The positional value of the first k digits. -/
def part (c : Nat → Int) : Nat → Int
  | 0 => 0
  | 1 => hv (c 0) * 4096
  | 2 => hv (c 0) * 4096 + hv (c 1) * 256
  | 3 => hv (c 0) * 4096 + hv (c 1) * 256 + hv (c 2) * 16
  | _ => hv (c 0) * 4096 + hv (c 1) * 256 + hv (c 2) * 16 + hv (c 3)

/-- What it is at most. -/
def bnd : Nat → Int
  | 0 => 0
  | 1 => 61440
  | 2 => 65280
  | 3 => 65520
  | _ => 65535

theorem part_val (c : Nat → Int) : part c 4 = val c 4 := by
  simp only [part, val]
  omega

set_option maxRecDepth 10000 in
set_option maxHeartbeats 1000000 in
theorem walk (a : Option Addr) (c : Nat) (zs : List Int) (w : World) (hv0 : View w a zs) (hl : zs.length ≤ maxLen) :
    Calls Try.prog 3 #[.slice a zs.length c] w fun e w' => e = .returned (.bool true) ∧ Below w.heap.size w w' := by
  have q22 := neq22
  obtain ⟨i0, hi, hz0, hz1, hz2⟩ := info_parts info5
  by_cases h : (zs.length : Int) ≤ 1048576
  · by_cases h4 : zs.length < 4
    · go_enter Try.func3, Try.ntmps3
      go_wp2_with fail
      refine (guard_yes a zs.length c h _).mono ?_
      rintro e w' ⟨rfl, rfl⟩
      go_wp2
      go_ret
      exact ⟨rfl, Below.refl _ _⟩
    obtain ⟨b0, o0, rfl, _⟩ := hv0 0 (by omega)
    have d13 : decide (1048576 < (zs.length : Int)) = false := decide_eq_false (by omega)
    have d16 : decide ((zs.length : Int) < 4) = false := decide_eq_false (by omega)
    go_enter Try.func3, Try.ntmps3
    go_wp2_with fail
    refine (guard_yes _ zs.length c h _).mono ?_
    rintro e w' ⟨rfl, rfl⟩
    go_wp2_with (at_make; refine wpList_make_full _ rfl _ _ 22 rfl w'.heap.size 5 i0 (.int .u8 0) 1 Try.underlying22 hi hz0 hz1 .i64 .i64 _ _ zs.length rfl rfl rfl rfl (by rw [hz2]; omega) (by unfold maxLen; omega) (Nat.le_refl _) ?_)
    intro w3 hown hgr
    have hlow := Below.grown (Below.refl w'.heap.size w') hgr (Nat.le_refl _) (fun k h => by cases h)
    obtain ⟨cur, hg, hcl⟩ := row_of hown
    have hsrc := src_cells (hv0.below hlow (Nat.le_refl _))
    have HSRC : Hid (∀ j v, (zs.map (Value.int .u8))[j]? = some v → w3.cell? ((⟨b0, o0, none⟩ : Addr).add j) = some v) := hsrc
    have HG : Hid (w3.heap[w'.heap.size]? = some (.cells cur.toArray 5 (0, 0))) := hg
    have HCL : Hid (cur.length = zs.length) := hcl
    clear hgr hown hsrc hg hcl
    go_wp2_with (refine wpList_copy_splice rfl (.tmp 22) (.tmp 23) 22 22 rfl 5 Try.underlying22 size5 (some ⟨w'.heap.size, 0, none⟩) (some ⟨b0, o0, none⟩) zs.length zs.length zs.length c rfl rfl w'.heap.size 0 cur 5 HG.out (zs.map (Value.int .u8)) (by simp) (fun _ => ⟨rfl, _, rfl, HSRC.out⟩) (by rw [HCL.out]; simp) (ints_one zs) w'.heap.size w' hlow (Nat.le_refl _) ?_)
    intro w4 HG4 hb4
    have hv4 := view_copy HCL.out HG4.out
    have hg4 : w'.heap.size < w4.heap.size := (Array.getElem?_eq_some_iff.1 HG4.out).1
    clear HG4 HG HSRC HCL hlow hv0 q22
    go_wp2
    clear d13 d16
    have hv5 := hv4.below (Below.alloc (Below.refl w4.heap.size w4) (Nat.le_refl _) (Obj.cells #[Value.int IntKind.i64 4096, Value.int IntKind.i64 256, Value.int IntKind.i64 16, Value.int IntKind.i64 1] 24)) (Nat.le_refl _)
    have hbel : Below w'.heap.size w' (w4.alloc (Obj.cells #[Value.int IntKind.i64 4096, Value.int IntKind.i64 256, Value.int IntKind.i64 16, Value.int IntKind.i64 1] 24)) := hb4.alloc (by omega) _
    have HC : Hid (∀ k, k < 4 → (w4.alloc (Obj.cells #[Value.int IntKind.i64 4096, Value.int IntKind.i64 256, Value.int IntKind.i64 16, Value.int IntKind.i64 1] 24)).cell? ⟨w'.heap.size, k, none⟩ = some (.int .u8 (zs.getD k 0))) := by
      intro k hk
      obtain ⟨b, off, e, hc⟩ := hv5 k (by omega)
      simp only [Option.some.injEq, Addr.mk.injEq, and_true] at e
      obtain ⟨rfl, rfl⟩ := e
      rw [Nat.zero_add] at hc
      exact hc
    clear hv4 hv5 hb4
    go_loop [5, 6, 7] (fun wt i v => ∃ (k : Nat) (W : Int), k ≤ 4 ∧ i = .int .i64 k ∧ wt = .int .i64 W ∧ 0 ≤ W ∧ W ≤ bnd k ∧ Hid (W = part (fun j => zs.getD j 0) k) ∧ Hid (∀ j, j < k → 0 ≤ hv (zs.getD j 0))) (fun _ i _ => 4 - (intOf i).toNat)
    case atStart => exact ⟨0, 0, by omega, rfl, rfl, by omega, by simp [bnd], rfl, fun j h => absurd h (by omega)⟩
    case round =>
      obtain ⟨k, W, hk, rfl, rfl, hW1, hW2, HW, HJ⟩ := hrel
      by_cases hlt : k < 4
      · rcases (show k = 0 ∨ k = 1 ∨ k = 2 ∨ k = 3 from by omega) with rfl | rfl | rfl | rfl
        · have hc := HC.out 0 (by omega)
          obtain ⟨x, ex⟩ : ∃ x, x = zs.getD 0 0 := ⟨_, rfl⟩
          rw [← ex] at hc
          have HX : Hid (x = zs.getD 0 0) := ex
          clear ex
          simp only [bnd] at hW2
          go_wp2_with fail
          refine (hexValue_any x _).mono ?_
          rintro e w6 ⟨rfl, rfl⟩
          have hyb := hv_le x
          obtain ⟨y, ey⟩ : ∃ y, y = hv x := ⟨_, rfl⟩
          rw [← ey] at hyb ⊢
          have HY : Hid (y = hv (zs.getD 0 0)) := by rw [← HX.out]; exact ey
          clear ey hc
          obtain ⟨hy1, hy2⟩ := hyb
          by_cases hneg : y < 0
          · go_wp2
            go_ret
            exact ⟨rfl, hbel⟩
          · go_wp2
            go_round
            case rel =>
              refine ⟨1, W + y * 4096, by omega, by go_num, by go_num, by omega, by simp only [bnd]; omega, ?_, ?_⟩
              · have e0 := HW.out
                have e1 := HY.out
                show _ = _
                simp only [part] at e0 ⊢
                rw [← e1]
                omega
              · intro j hj
                by_cases e : j < 0
                · exact HJ.out j e
                · obtain rfl : j = 0 := by omega
                  rw [← HY.out]; omega
            case measure => simp [intOf]
        · have hc := HC.out 1 (by omega)
          obtain ⟨x, ex⟩ : ∃ x, x = zs.getD 1 0 := ⟨_, rfl⟩
          rw [← ex] at hc
          have HX : Hid (x = zs.getD 1 0) := ex
          clear ex
          simp only [bnd] at hW2
          go_wp2_with fail
          refine (hexValue_any x _).mono ?_
          rintro e w6 ⟨rfl, rfl⟩
          have hyb := hv_le x
          obtain ⟨y, ey⟩ : ∃ y, y = hv x := ⟨_, rfl⟩
          rw [← ey] at hyb ⊢
          have HY : Hid (y = hv (zs.getD 1 0)) := by rw [← HX.out]; exact ey
          clear ey hc
          obtain ⟨hy1, hy2⟩ := hyb
          by_cases hneg : y < 0
          · go_wp2
            go_ret
            exact ⟨rfl, hbel⟩
          · go_wp2
            go_round
            case rel =>
              refine ⟨2, W + y * 256, by omega, by go_num, by go_num, by omega, by simp only [bnd]; omega, ?_, ?_⟩
              · have e0 := HW.out
                have e1 := HY.out
                show _ = _
                simp only [part] at e0 ⊢
                rw [← e1]
                omega
              · intro j hj
                by_cases e : j < 1
                · exact HJ.out j e
                · obtain rfl : j = 1 := by omega
                  rw [← HY.out]; omega
            case measure => simp [intOf]
        · have hc := HC.out 2 (by omega)
          obtain ⟨x, ex⟩ : ∃ x, x = zs.getD 2 0 := ⟨_, rfl⟩
          rw [← ex] at hc
          have HX : Hid (x = zs.getD 2 0) := ex
          clear ex
          simp only [bnd] at hW2
          go_wp2_with fail
          refine (hexValue_any x _).mono ?_
          rintro e w6 ⟨rfl, rfl⟩
          have hyb := hv_le x
          obtain ⟨y, ey⟩ : ∃ y, y = hv x := ⟨_, rfl⟩
          rw [← ey] at hyb ⊢
          have HY : Hid (y = hv (zs.getD 2 0)) := by rw [← HX.out]; exact ey
          clear ey hc
          obtain ⟨hy1, hy2⟩ := hyb
          by_cases hneg : y < 0
          · go_wp2
            go_ret
            exact ⟨rfl, hbel⟩
          · go_wp2
            go_round
            case rel =>
              refine ⟨3, W + y * 16, by omega, by go_num, by go_num, by omega, by simp only [bnd]; omega, ?_, ?_⟩
              · have e0 := HW.out
                have e1 := HY.out
                show _ = _
                simp only [part] at e0 ⊢
                rw [← e1]
                omega
              · intro j hj
                by_cases e : j < 2
                · exact HJ.out j e
                · obtain rfl : j = 2 := by omega
                  rw [← HY.out]; omega
            case measure => simp [intOf]
        · have hc := HC.out 3 (by omega)
          obtain ⟨x, ex⟩ : ∃ x, x = zs.getD 3 0 := ⟨_, rfl⟩
          rw [← ex] at hc
          have HX : Hid (x = zs.getD 3 0) := ex
          clear ex
          simp only [bnd] at hW2
          go_wp2_with fail
          refine (hexValue_any x _).mono ?_
          rintro e w6 ⟨rfl, rfl⟩
          have hyb := hv_le x
          obtain ⟨y, ey⟩ : ∃ y, y = hv x := ⟨_, rfl⟩
          rw [← ey] at hyb ⊢
          have HY : Hid (y = hv (zs.getD 3 0)) := by rw [← HX.out]; exact ey
          clear ey hc
          obtain ⟨hy1, hy2⟩ := hyb
          by_cases hneg : y < 0
          · go_wp2
            go_ret
            exact ⟨rfl, hbel⟩
          · go_wp2
            go_round
            case rel =>
              refine ⟨4, W + y, by omega, by go_num, by go_num, by omega, by simp only [bnd]; omega, ?_, ?_⟩
              · have e0 := HW.out
                have e1 := HY.out
                show _ = _
                simp only [part] at e0 ⊢
                rw [← e1]
                omega
              · intro j hj
                by_cases e : j < 3
                · exact HJ.out j e
                · obtain rfl : j = 3 := by omega
                  rw [← HY.out]; omega
            case measure => simp [intOf]
      · obtain rfl : k = 4 := by omega
        simp only [bnd] at hW2
        have HV : Hid (val (fun j => zs.getD j 0) 4 = W) := show _ = _ by rw [HW.out, part_val]
        have HC2 : Hid (∀ i, i < 4 → (w4.alloc (Obj.cells #[Value.int IntKind.i64 4096, Value.int IntKind.i64 256, Value.int IntKind.i64 16, Value.int IntKind.i64 1] 24)).cell? ⟨w'.heap.size, 0 + i, none⟩ = some (.int .u8 (zs.getD i 0))) := fun i hi => by rw [Nat.zero_add]; exact HC.out i hi
        go_wp2_with fail
        refine (zhex4_any w'.heap.size 0 zs.length zs.length (fun j => zs.getD j 0) W _ (by omega) (Nat.le_refl _) (by omega) HC2.out HJ.out HV.out).mono ?_
        rintro e w7 ⟨rfl, rfl⟩
        go_wp2
        go_ret
        exact ⟨rfl, hbel⟩
  · go_enter Try.func3, Try.ntmps3
    go_wp2_with fail
    refine (guard_no a zs.length c (by omega) _).mono ?_
    rintro e w' ⟨rfl, rfl⟩
    go_wp2
    go_ret
    exact ⟨rfl, Below.refl _ _⟩
end Go.Proofs.Qxb6605376a.Hr
