/-
  THE WALK of FnHex4ReadsWhatFourDigitsWrite (4).
-/
import Derived.Test.Qxb6605376aHxWalks
import Derived.Deep.DeepCutAuto
namespace Go.Proofs.Qxb6605376a.Hw
open Go.RowKit
open Go.Proofs.Qxb6605376a.Plain (hv hv_le hv_cases val val_bounds val_small)
open Go.Proofs.Qxb6605376a.Hx
set_option linter.unusedVariables false

theorem info5 : (Try.prog.info? 5).map (fun i => (i.zero, i.size, i.bytes)) = some (some (.int .u8 0), 1, 1) := by kernel_rfl

def nib (n : Int) (i : Nat) : Int := n / 2 ^ (12 - 4 * i) % 16

theorem guard_yes (n m : Int) (a : Option Addr) (l c : Nat) (h : (l : Int) ≤ 1048576) (w : World) :
    Calls Try.prog 10 #[.int .u16 n, .int .u8 m, .slice a l c] w fun e w' => e = .returned (.bool true) ∧ w' = w := by
  go_enter Try.func10, Try.ntmps10
  go_wp2
  go_ret
  exact ⟨rfl, rfl⟩

theorem guard_no (n m : Int) (a : Option Addr) (l c : Nat) (h : 1048576 < (l : Int)) (w : World) :
    Calls Try.prog 10 #[.int .u16 n, .int .u8 m, .slice a l c] w fun e w' => e = .returned (.bool false) ∧ w' = w := by
  go_enter Try.func10, Try.ntmps10
  go_wp2
  go_ret
  exact ⟨rfl, rfl⟩

/-- A slice of bytes as it lies in memory: where there is an element, the address is plain, and the cell holds it. -/
def View (w : World) (a : Option Addr) (zs : List Int) : Prop :=
  ∀ i, i < zs.length → ∃ b off, a = some ⟨b, off, none⟩ ∧ w.cell? ⟨b, off + i, none⟩ = some (.int .u8 (zs.getD i 0))

def hexTab : ByteArray := ⟨#[48, 49, 50, 51, 52, 53, 54, 55, 56, 57, 97, 98, 99, 100, 101, 102, 48, 49, 50, 51, 52, 53, 54, 55, 56, 57, 65, 66, 67, 68, 69, 70]⟩
theorem hexTab_size : hexTab.size = 32 := rfl

theorem one_new (W : World) (c : UInt8) : ∀ j u, [Value.int .u8 c.toNat][j]? = some u → (W.alloc (.cells #[.int .u8 c.toNat] 5)).cell? ((⟨W.heap.size, 0, none⟩ : Addr).add j) = some u := by
  intro j u hj
  match j, hj with
  | 0, hj => simp at hj; subst hj; simp [Addr.add]

theorem one_cell (c : Int) : ∀ u ∈ [Value.int .u8 c], u.oneCell' = true := by
  intro u hu; simp at hu; subst hu; rfl

theorem and15 (x : Int) (h1 : 0 ≤ x) (h2 : x ≤ 65535) : ∃ d : Nat, bits BinOp.and IntKind.i64 x 15 = (d : Int) ∧ d < 16 ∧ (d : Int) = x % 16 := by
  obtain ⟨a, rfl⟩ : ∃ a : Nat, x = a := ⟨x.toNat, by omega⟩
  refine ⟨a % 16, ?_, by omega, by omega⟩
  show IntKind.i64.wrap ((BitVec.ofInt 64 (a : Int) &&& BitVec.ofInt 64 ((15 : Nat) : Int)).toNat : Int) = _
  rw [BitVec.toNat_and, ofInt_nat 64 _ (by omega), ofInt_nat 64 _ (by omega), nat_mask4, IntKind.wrap_i64]
  omega

theorem tab_all : ∀ d : Fin 16, Plain.hv ((hexTab.data[d.val]'(Nat.lt_of_lt_of_le d.isLt (by decide))).toNat : Int) = d.val ∧ Plain.hv ((hexTab.data[16 + d.val]'(Nat.lt_of_lt_of_le (Nat.add_lt_add_left d.isLt 16) (by decide))).toNat : Int) = d.val := by decide

theorem tab_lo (d : Nat) (h : d < 16) (v : Int) (hv : (d : Int) = v) : Plain.hv ((hexTab[d]'(by have := hexTab_size; omega)).toNat : Int) = v := by
  exact (tab_all ⟨d, h⟩).1.trans hv
theorem tab_hi (d : Nat) (h : d < 16) (v : Int) (hv : (d : Int) = v) : Plain.hv ((hexTab[16 + d]'(by have := hexTab_size; omega)).toNat : Int) = v := by
  exact (tab_all ⟨d, h⟩).2.trans hv

theorem grow_nib (n : Int) (k : Nat) (L : List Int) (x : Int) (W : World) (B : Nat) (v : Value) (hl : (L.map (Value.int .u8)).length = k * 1)
    (ho : W.ownsRow B 5 1 v (k + 1) (L.map (Value.int .u8) ++ [Value.int .u8 x])) (hL : Hid (∀ i, i < k → Plain.hv (L.getD i 0) = nib n i)) (hx : Plain.hv x = nib n k) :
    ∃ L2 : List Int, W.ownsRow B 5 1 v (k + 1) (L2.map (Value.int .u8)) ∧ Hid (∀ i, i < k + 1 → Plain.hv (L2.getD i 0) = nib n i) := by
  refine ⟨L ++ [x], by simpa using ho, ?_⟩
  intro i hi
  have hll : L.length = k := by simpa using hl
  by_cases e : i < k
  · rw [List.getD_eq_getElem?_getD, List.getElem?_append_left (by omega), ← List.getD_eq_getElem?_getD]
    exact hL i e
  · obtain rfl : i = k := by omega
    rw [List.getD_eq_getElem?_getD, List.getElem?_append_right (by omega), hll, Nat.sub_self]
    exact hx

theorem val_nib (n : Int) (h0 : 0 ≤ n) (h1 : n ≤ 65535) (c : Nat → Int) (h : ∀ i, i < 4 → Plain.hv (c i) = nib n i) : val c 4 = n := by
  have e0 := h 0 (by omega)
  have e1 := h 1 (by omega)
  have e2 := h 2 (by omega)
  have e3 := h 3 (by omega)
  simp only [nib] at e0 e1 e2 e3
  simp only [val, e0, e1, e2, e3]
  simp
  omega

theorem nib_nonneg (n : Int) (i : Nat) : 0 ≤ nib n i := Int.emod_nonneg _ (by decide)

theorem lt_of_cell {w : World} {a : Addr} {v : Value} (h : w.cell? a = some v) : a.block < w.heap.size := by
  by_cases hl : a.block < w.heap.size
  · exact hl
  · unfold World.cell? at h
    rw [Array.getElem?_eq_none (by omega)] at h
    simp at h

theorem one_new' (W : World) (c : Int) : ∀ j u, [Value.int .u8 c][j]? = some u → (W.alloc (.cells #[.int .u8 c] 5)).cell? ((⟨W.heap.size, 0, none⟩ : Addr).add j) = some u := by
  intro j u hj
  match j, hj with
  | 0, hj => simp at hj; subst hj; simp [Addr.add]

theorem take_snoc (zs : List Int) (k : Nat) (h : k < zs.length) : zs.take (k + 1) = zs.take k ++ [zs.getD k 0] := by
  rw [List.take_succ_eq_append_getElem h]
  simp [List.getD_eq_getElem?_getD, List.getElem?_eq_getElem h]

theorem cells4 {W : World} {B n cap : Nat} {L zs : List Int} (hL : L.length = 4) (ho : W.ownsRow B 5 1 (.slice (some ⟨B, 0, none⟩) n cap) n ((L ++ zs).map (Value.int .u8))) (hn : 4 ≤ n) :
    ∀ i, i < 4 → W.cell? ⟨B, 0 + i, none⟩ = some (.int .u8 (L.getD i 0)) := by
  intro i hi
  rw [Nat.zero_add, ho.cellAt i (by omega), List.map_append, List.getElem?_append_left (by simp; omega)]
  simp [List.getD_eq_getElem?_getD, hL, hi]

theorem hide_view {w : World} {a : Option Addr} {zs : List Int} (h : View w a zs) : Hid (∀ i, i < zs.length → ∃ b off, a = some ⟨b, off, none⟩ ∧ w.cell? ⟨b, off + i, none⟩ = some (.int .u8 (zs.getD i 0))) := h

set_option maxHeartbeats 1000000 in
theorem walk (n m : Int) (a : Option Addr) (c : Nat) (zs : List Int) (w : World) (hn0 : 0 ≤ n) (hn1 : n ≤ 65535) (hm0 : 0 ≤ m) (hm1 : m ≤ 255) (hl : zs.length ≤ maxLen) (hv : View w a zs) :
    Calls Try.prog 4 #[.int .u16 n, .int .u8 m, .slice a zs.length c] w fun e w' => e = .returned (.bool true) ∧ Below w.heap.size w w' := by
  unfold maxLen at hl
  obtain ⟨i0, hi, hz0, hz1, hz2⟩ := info_parts info5
  by_cases h : (zs.length : Int) ≤ 1048576
  · go_enter Try.func4, Try.ntmps4
    go_wp2_with fail
    refine (guard_yes n m a zs.length c h _).mono ?_
    rintro e w' ⟨rfl, rfl⟩
    go_wp2_with (at_make; refine wpList_make_own _ rfl _ _ 22 rfl w'.heap.size 5 i0 (.int .u8 0) 1 Try.underlying22 hi hz0 hz1 .i64 .i64 _ (4 + zs.length) rfl rfl (by omega) (by rw [hz2]; omega) (by unfold maxLen; omega) (Nat.le_refl _) ?_)
    intro w1 hown hgr
    have hlow := Below.grown (Below.refl w'.heap.size w') hgr (Nat.le_refl _) (fun k h => by cases h)
    clear hgr
    go_wp2
    go_loopw [7, 8, 9] (fun o i d wr => ∃ (k : Nat) (L : List Int), k ≤ 4 ∧ i = .int .i64 k ∧ o = .slice (some ⟨w'.heap.size, 0, none⟩) k (4 + zs.length) ∧ wr.ownsRow w'.heap.size 5 1 (.slice (some ⟨w'.heap.size, 0, none⟩) k (4 + zs.length)) k (L.map (Value.int .u8)) ∧ Hid (∀ i, i < k → Plain.hv (L.getD i 0) = nib n i) ∧ Below w'.heap.size w' wr)
      (fun _ i _ _ => 4 - (intOf i).toNat)
    case atStart => exact ⟨0, [], Nat.zero_le _, rfl, rfl, hown, fun i h => absurd h (by omega), hlow⟩
    case round =>
      obtain ⟨k, L, hk, rfl, rfl, ho, hL, hb⟩ := hrel
      clear hown hlow
      by_cases hlt : k < 4
      · rcases (show k = 0 ∨ k = 1 ∨ k = 2 ∨ k = 3 from by omega) with rfl | rfl | rfl | rfl
        · obtain ⟨d, hd, hd16, hdv⟩ := and15 (n / 4096) (by omega) (by omega)
          have HN : Hid ((d : Int) = nib n 0) := show _ = _ by rw [hdv]; simp [nib]
          clear hdv
          cases hbit : (bits BinOp.and IntKind.u8 (m) 1 == 1)
          · go_wp2_with (at_builtin; refine wpList_append_fits _ rfl _ _ 22 rfl w'.heap.size 5 i0 1 Try.underlying22 hi hz1 w'.heap.size 0 (4 + zs.length) _ rfl (ho.alloc _) ⟨wr.heap.size, 0, none⟩ 1 1 [.int .u8 (hexTab[d]'(by have := hexTab_size; omega)).toNat] rfl rfl (one_new wr _) (one_cell _) (by omega) ?_)
            intro w2 hown2 hgr2
            have hb2 := Below.grown (hb.alloc hb.size _) hgr2 (by have := hb.size; simp; omega) (fun k h => by cases h; exact Nat.le_refl _)
            obtain ⟨L2, ho2, hL2⟩ := grow_nib n 0 L _ w2 w'.heap.size _ ho.1 hown2 hL (tab_lo d hd16 _ HN.out)
            clear hown2 hgr2 ho hL hb
            go_wp2
            go_roundw
            case rel =>
              first
              | exact ⟨1, L2, by omega, by go_num, rfl, ho2, hL2, hb2⟩
              | ((repeat apply Exists.intro); exact ⟨⟨1, L2, by omega, by go_num, rfl, ho2, hL2, hb2⟩, rfl⟩)
            case measure => simp [intOf]
          · go_wp2_with (at_builtin; refine wpList_append_fits _ rfl _ _ 22 rfl w'.heap.size 5 i0 1 Try.underlying22 hi hz1 w'.heap.size 0 (4 + zs.length) _ rfl (ho.alloc _) ⟨wr.heap.size, 0, none⟩ 1 1 [.int .u8 (hexTab[16 + d]'(by have := hexTab_size; omega)).toNat] rfl rfl (one_new wr _) (one_cell _) (by omega) ?_)
            intro w2 hown2 hgr2
            have hb2 := Below.grown (hb.alloc hb.size _) hgr2 (by have := hb.size; simp; omega) (fun k h => by cases h; exact Nat.le_refl _)
            obtain ⟨L2, ho2, hL2⟩ := grow_nib n 0 L _ w2 w'.heap.size _ ho.1 hown2 hL (tab_hi d hd16 _ HN.out)
            clear hown2 hgr2 ho hL hb
            go_wp2
            go_roundw
            case rel =>
              first
              | exact ⟨1, L2, by omega, by go_num, rfl, ho2, hL2, hb2⟩
              | ((repeat apply Exists.intro); exact ⟨⟨1, L2, by omega, by go_num, rfl, ho2, hL2, hb2⟩, rfl⟩)
            case measure => simp [intOf]
        · obtain ⟨d, hd, hd16, hdv⟩ := and15 (n / 256) (by omega) (by omega)
          have HN : Hid ((d : Int) = nib n 1) := show _ = _ by rw [hdv]; simp [nib]
          clear hdv
          cases hbit : (bits BinOp.and IntKind.u8 (m / 2) 1 == 1)
          · go_wp2_with (at_builtin; refine wpList_append_fits _ rfl _ _ 22 rfl w'.heap.size 5 i0 1 Try.underlying22 hi hz1 w'.heap.size 1 (4 + zs.length) _ rfl (ho.alloc _) ⟨wr.heap.size, 0, none⟩ 1 1 [.int .u8 (hexTab[d]'(by have := hexTab_size; omega)).toNat] rfl rfl (one_new wr _) (one_cell _) (by omega) ?_)
            intro w2 hown2 hgr2
            have hb2 := Below.grown (hb.alloc hb.size _) hgr2 (by have := hb.size; simp; omega) (fun k h => by cases h; exact Nat.le_refl _)
            obtain ⟨L2, ho2, hL2⟩ := grow_nib n 1 L _ w2 w'.heap.size _ ho.1 hown2 hL (tab_lo d hd16 _ HN.out)
            clear hown2 hgr2 ho hL hb
            go_wp2
            go_roundw
            case rel =>
              first
              | exact ⟨2, L2, by omega, by go_num, rfl, ho2, hL2, hb2⟩
              | ((repeat apply Exists.intro); exact ⟨⟨2, L2, by omega, by go_num, rfl, ho2, hL2, hb2⟩, rfl⟩)
            case measure => simp [intOf]
          · go_wp2_with (at_builtin; refine wpList_append_fits _ rfl _ _ 22 rfl w'.heap.size 5 i0 1 Try.underlying22 hi hz1 w'.heap.size 1 (4 + zs.length) _ rfl (ho.alloc _) ⟨wr.heap.size, 0, none⟩ 1 1 [.int .u8 (hexTab[16 + d]'(by have := hexTab_size; omega)).toNat] rfl rfl (one_new wr _) (one_cell _) (by omega) ?_)
            intro w2 hown2 hgr2
            have hb2 := Below.grown (hb.alloc hb.size _) hgr2 (by have := hb.size; simp; omega) (fun k h => by cases h; exact Nat.le_refl _)
            obtain ⟨L2, ho2, hL2⟩ := grow_nib n 1 L _ w2 w'.heap.size _ ho.1 hown2 hL (tab_hi d hd16 _ HN.out)
            clear hown2 hgr2 ho hL hb
            go_wp2
            go_roundw
            case rel =>
              first
              | exact ⟨2, L2, by omega, by go_num, rfl, ho2, hL2, hb2⟩
              | ((repeat apply Exists.intro); exact ⟨⟨2, L2, by omega, by go_num, rfl, ho2, hL2, hb2⟩, rfl⟩)
            case measure => simp [intOf]
        · obtain ⟨d, hd, hd16, hdv⟩ := and15 (n / 16) (by omega) (by omega)
          have HN : Hid ((d : Int) = nib n 2) := show _ = _ by rw [hdv]; simp [nib]
          clear hdv
          cases hbit : (bits BinOp.and IntKind.u8 (m / 4) 1 == 1)
          · go_wp2_with (at_builtin; refine wpList_append_fits _ rfl _ _ 22 rfl w'.heap.size 5 i0 1 Try.underlying22 hi hz1 w'.heap.size 2 (4 + zs.length) _ rfl (ho.alloc _) ⟨wr.heap.size, 0, none⟩ 1 1 [.int .u8 (hexTab[d]'(by have := hexTab_size; omega)).toNat] rfl rfl (one_new wr _) (one_cell _) (by omega) ?_)
            intro w2 hown2 hgr2
            have hb2 := Below.grown (hb.alloc hb.size _) hgr2 (by have := hb.size; simp; omega) (fun k h => by cases h; exact Nat.le_refl _)
            obtain ⟨L2, ho2, hL2⟩ := grow_nib n 2 L _ w2 w'.heap.size _ ho.1 hown2 hL (tab_lo d hd16 _ HN.out)
            clear hown2 hgr2 ho hL hb
            go_wp2
            go_roundw
            case rel =>
              first
              | exact ⟨3, L2, by omega, by go_num, rfl, ho2, hL2, hb2⟩
              | ((repeat apply Exists.intro); exact ⟨⟨3, L2, by omega, by go_num, rfl, ho2, hL2, hb2⟩, rfl⟩)
            case measure => simp [intOf]
          · go_wp2_with (at_builtin; refine wpList_append_fits _ rfl _ _ 22 rfl w'.heap.size 5 i0 1 Try.underlying22 hi hz1 w'.heap.size 2 (4 + zs.length) _ rfl (ho.alloc _) ⟨wr.heap.size, 0, none⟩ 1 1 [.int .u8 (hexTab[16 + d]'(by have := hexTab_size; omega)).toNat] rfl rfl (one_new wr _) (one_cell _) (by omega) ?_)
            intro w2 hown2 hgr2
            have hb2 := Below.grown (hb.alloc hb.size _) hgr2 (by have := hb.size; simp; omega) (fun k h => by cases h; exact Nat.le_refl _)
            obtain ⟨L2, ho2, hL2⟩ := grow_nib n 2 L _ w2 w'.heap.size _ ho.1 hown2 hL (tab_hi d hd16 _ HN.out)
            clear hown2 hgr2 ho hL hb
            go_wp2
            go_roundw
            case rel =>
              first
              | exact ⟨3, L2, by omega, by go_num, rfl, ho2, hL2, hb2⟩
              | ((repeat apply Exists.intro); exact ⟨⟨3, L2, by omega, by go_num, rfl, ho2, hL2, hb2⟩, rfl⟩)
            case measure => simp [intOf]
        · obtain ⟨d, hd, hd16, hdv⟩ := and15 (n) (by omega) (by omega)
          have HN : Hid ((d : Int) = nib n 3) := show _ = _ by rw [hdv]; simp [nib]
          clear hdv
          cases hbit : (bits BinOp.and IntKind.u8 (m / 8) 1 == 1)
          · go_wp2_with (at_builtin; refine wpList_append_fits _ rfl _ _ 22 rfl w'.heap.size 5 i0 1 Try.underlying22 hi hz1 w'.heap.size 3 (4 + zs.length) _ rfl (ho.alloc _) ⟨wr.heap.size, 0, none⟩ 1 1 [.int .u8 (hexTab[d]'(by have := hexTab_size; omega)).toNat] rfl rfl (one_new wr _) (one_cell _) (by omega) ?_)
            intro w2 hown2 hgr2
            have hb2 := Below.grown (hb.alloc hb.size _) hgr2 (by have := hb.size; simp; omega) (fun k h => by cases h; exact Nat.le_refl _)
            obtain ⟨L2, ho2, hL2⟩ := grow_nib n 3 L _ w2 w'.heap.size _ ho.1 hown2 hL (tab_lo d hd16 _ HN.out)
            clear hown2 hgr2 ho hL hb
            go_wp2
            go_roundw
            case rel =>
              first
              | exact ⟨4, L2, by omega, by go_num, rfl, ho2, hL2, hb2⟩
              | ((repeat apply Exists.intro); exact ⟨⟨4, L2, by omega, by go_num, rfl, ho2, hL2, hb2⟩, rfl⟩)
            case measure => simp [intOf]
          · go_wp2_with (at_builtin; refine wpList_append_fits _ rfl _ _ 22 rfl w'.heap.size 5 i0 1 Try.underlying22 hi hz1 w'.heap.size 3 (4 + zs.length) _ rfl (ho.alloc _) ⟨wr.heap.size, 0, none⟩ 1 1 [.int .u8 (hexTab[16 + d]'(by have := hexTab_size; omega)).toNat] rfl rfl (one_new wr _) (one_cell _) (by omega) ?_)
            intro w2 hown2 hgr2
            have hb2 := Below.grown (hb.alloc hb.size _) hgr2 (by have := hb.size; simp; omega) (fun k h => by cases h; exact Nat.le_refl _)
            obtain ⟨L2, ho2, hL2⟩ := grow_nib n 3 L _ w2 w'.heap.size _ ho.1 hown2 hL (tab_hi d hd16 _ HN.out)
            clear hown2 hgr2 ho hL hb
            go_wp2
            go_roundw
            case rel =>
              first
              | exact ⟨4, L2, by omega, by go_num, rfl, ho2, hL2, hb2⟩
              | ((repeat apply Exists.intro); exact ⟨⟨4, L2, by omega, by go_num, rfl, ho2, hL2, hb2⟩, rfl⟩)
            case measure => simp [intOf]
      · obtain rfl : k = 4 := by omega
        have hL4 : L.length = 4 := by have := ho.1; simpa using this
        have HL4 : Hid (L.length = 4) := hL4
        have HV := hide_view hv
        clear hL4 hv
        go_wp2
        go_loopw [7, 10] (fun o i wq => ∃ t : Nat, t ≤ zs.length ∧ i = .int .i64 t ∧ o = .slice (some ⟨w'.heap.size, 0, none⟩) (4 + t) (4 + zs.length) ∧ wq.ownsRow w'.heap.size 5 1 (.slice (some ⟨w'.heap.size, 0, none⟩) (4 + t) (4 + zs.length)) (4 + t) ((L ++ zs.take t).map (Value.int .u8)) ∧ Below w'.heap.size w' wq)
          (fun _ i _ => zs.length - (intOf i).toNat)
        case atStart => exact ⟨0, Nat.zero_le _, rfl, rfl, by simpa using ho, hb⟩
        case round =>
          obtain ⟨wo, rfl⟩ : ∃ wo : World, wo = wr := ⟨_, rfl⟩
          obtain ⟨t, ht, rfl, rfl, hq, hbq⟩ := hrel
          clear ho hb
          by_cases htl : t < zs.length
          · obtain ⟨b, off, rfl, hc⟩ := HV.out t htl
            have hbl := lt_of_cell hc
            have hcq : wo.cell? ⟨b, off + t, none⟩ = some (.int .u8 (zs.getD t 0)) := by rw [hbq.cell (p := ⟨b, off + t, none⟩) hbl]; exact hc
            have hsn := take_snoc zs t htl
            obtain ⟨x, ex⟩ : ∃ x, x = zs.getD t 0 := ⟨_, rfl⟩
            rw [← ex] at hcq hsn
            have HS : Hid (zs.take (t + 1) = zs.take t ++ [x]) := hsn
            clear ex hsn hc HV
            have hwq := hbq.size
            go_wp2_with (at_builtin; refine wpList_append_fits _ rfl _ _ 22 rfl w'.heap.size 5 i0 1 Try.underlying22 hi hz1 w'.heap.size (4 + t) (4 + zs.length) _ rfl (hq.alloc _) ⟨wo.heap.size, 0, none⟩ 1 1 [.int .u8 x] rfl rfl (one_new' wo _) (one_cell _) (by omega) ?_)
            intro w4 ho5 hgr4
            have hb5 := Below.grown (hbq.alloc hwq _) hgr4 (by simp; omega) (fun k h => by cases h; exact Nat.le_refl _)
            have ho6 : w4.ownsRow w'.heap.size 5 1 (.slice (some ⟨w'.heap.size, 0, none⟩) (4 + (t + 1)) (4 + zs.length)) (4 + (t + 1)) ((L ++ zs.take (t + 1)).map (Value.int .u8)) := by
              rw [HS.out]
              simp only [List.map_append, List.map_take] at ho5 ⊢
              exact ho5
            clear ho5 hgr4 hq hbq
            go_wp2
            go_roundw
            case rel =>
              first
              | exact ⟨t + 1, by omega, by go_num, rfl, ho6, hb5⟩
              | ((repeat apply Exists.intro); exact ⟨⟨t + 1, by omega, by go_num, rfl, ho6, hb5⟩, rfl⟩)
            case measure => simp [intOf]; omega
          · obtain rfl : t = zs.length := by omega
            have hcells := cells4 HL4.out hq (by omega)
            have hhex : ∀ i, i < 4 → 0 ≤ Plain.hv (L.getD i 0) := fun i hi => by rw [hL.out i hi]; exact nib_nonneg n i
            have hval := val_nib n hn0 hn1 (fun i => L.getD i 0) hL.out
            have HC : Hid (∀ i, i < 4 → wo.cell? ⟨w'.heap.size, 0 + i, none⟩ = some (.int .u8 (L.getD i 0))) := hcells
            have HH : Hid (∀ i, i < 4 → 0 ≤ Plain.hv (L.getD i 0)) := hhex
            have HVAL : Hid (val (fun i => L.getD i 0) 4 = n) := hval
            clear hcells hhex hval hq hL HV
            go_wp2_with fail
            refine (zhex4_any w'.heap.size 0 (4 + zs.length) (4 + zs.length) (fun i => L.getD i 0) n wo (by omega) (Nat.le_refl _) (by omega) HC.out HH.out HVAL.out).mono ?_
            rintro e w5 ⟨rfl, rfl⟩
            go_wp2
            go_ret
            exact ⟨rfl, hbq⟩
  · go_enter Try.func4, Try.ntmps4
    go_wp2_with fail
    refine (guard_no n m a zs.length c (by omega) _).mono ?_
    rintro e w' ⟨rfl, rfl⟩
    go_wp2
    go_ret
    exact ⟨rfl, Below.refl _ _⟩
end Go.Proofs.Qxb6605376a.Hw
