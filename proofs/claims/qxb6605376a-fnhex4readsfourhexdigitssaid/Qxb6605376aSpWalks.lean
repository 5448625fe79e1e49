/-
  THE WALKS of (*scanner).space (16), ZZSpace (13), isJSONSpace (12).
-/
import Derived.Test.Qxb6605376aProg
import Derived.Test.Qxb6605376aSpPlain
import Derived.WalkKit
import Derived.WalkSpells
import Derived.WalkLawsBesides
import Derived.Deep.QuietTactic
import Derived.BigQuiet
import Derived.Deep.LoopGhost
import Derived.Deep.DeepCutAuto
import Derived.Laws.CopyOwn
import Derived.WideShapes
import Derived.Outline
namespace Go.Proofs.Qxb6605376a.Sp
open Go.RowKit
open Go.Proofs.Qxb6605376a.SpP
set_option linter.unusedVariables false

theorem ret_bool {a b : Bool} (h : a = b) : Ending.returned (.bool a) = .returned (.bool b) := by rw [h]

/-- A slice of bytes as it lies in memory: where there is an element, the address is plain, and the cell holds it. -/
def View (w : World) (a : Option Addr) (zs : List Int) : Prop :=
  ∀ i, i < zs.length → ∃ b off, a = some ⟨b, off, none⟩ ∧ w.cell? ⟨b, off + i, none⟩ = some (.int .u8 (zs.getD i 0))

theorem lt_of_cell {w : World} {a : Addr} {v : Value} (h : w.cell? a = some v) : a.block < w.heap.size := by
  by_cases hl : a.block < w.heap.size
  · exact hl
  · unfold World.cell? at h
    rw [Array.getElem?_eq_none (by omega)] at h
    simp at h

theorem View.below {w w' : World} {a : Option Addr} {zs : List Int} (h : View w a zs) {C : Nat} (hb : Below C w w') (hC : w.heap.size ≤ C) : View w' a zs := by
  intro i hi
  obtain ⟨b, off, e, hc⟩ := h i hi
  exact ⟨b, off, e, by rw [hb.cell (p := ⟨b, off + i, none⟩) (Nat.lt_of_lt_of_le (lt_of_cell hc) hC)]; exact hc⟩

theorem isp_any (c : Int) (w : World) : Calls Try.prog 12 #[.int .u8 c] w fun e w' => e = .returned (.bool (sp c)) ∧ w' = w := by
  go_enter Try.func12, Try.ntmps12
  go_wp2
  · go_ret
    exact ⟨ret_bool (a := true) (by simp [sp, *]), rfl⟩
  · go_ret
    exact ⟨ret_bool (a := true) (by simp [sp, *]), rfl⟩
  · go_ret
    exact ⟨ret_bool (a := true) (by simp [sp, *]), rfl⟩
  · go_ret
    exact ⟨rfl, rfl⟩

theorem sp_yes (x : Int) (h : (x == 32) = true ∨ (x == 9) = true ∨ (x == 10) = true ∨ (x == 13) = true) : sp x = true := by
  simp only [sp, Bool.or_eq_true]
  rcases h with h | h | h | h <;> simp [h]
theorem sp_no (x : Int) (h1 : (x == 32) = false) (h2 : (x == 9) = false) (h3 : (x == 10) = false) (h4 : (x == 13) = false) : sp x = false := by
  simp [sp, h1, h2, h3, h4]

/-- The scanner in block p of world wr: its three fields; below p all is as in w0. -/
structure Scan (w0 wr : World) (p : Nat) (a : Option Addr) (n c : Nat) (k : Nat) (ch : Bool) : Prop where
  c0 : wr.cell? ⟨p, 0, none⟩ = some (.slice a n c)
  c1 : wr.cell? ⟨p, 1, none⟩ = some (.int .i64 k)
  c2 : wr.cell? ⟨p, 2, none⟩ = some (.bool ch)
  f1 : wr.frozen? ⟨p, 1, none⟩ = false
  bel : Below p w0 wr

theorem Scan.drewN {w0 wr : World} {p : Nat} {a : Option Addr} {n c k : Nat} {ch : Bool} (h : Scan w0 wr p a n c k ch) (m : Nat) : Scan w0 (wr.drewN m) p a n c k ch :=
  ⟨h.c0, h.c1, h.c2, h.f1, ⟨h.bel.os, h.bel.tape, h.bel.output, h.bel.size, h.bel.block⟩⟩

theorem Scan.step {w0 wr : World} {p : Nat} {a : Option Addr} {n c k : Nat} {ch : Bool} (h : Scan w0 wr p a n c k ch) : Scan w0 (wr.setCell ⟨p, 1, none⟩ (.int .i64 ((k : Int) + 1))) p a n c (k + 1) ch := by
  refine ⟨?_, ?_, ?_, ?_, h.bel.setCell (Nat.le_refl _) _⟩
  · exact (World.cell?_setCell_other (h := by simp) ..).trans h.c0
  · exact World.cell?_setCell_same (h := h.c1) ..
  · exact (World.cell?_setCell_other (h := by simp) ..).trans h.c2
  · rw [World.frozen?_setCell]; exact h.f1

set_option maxHeartbeats 400000 in
theorem space_any (p c : Nat) (a : Option Addr) (zs : List Int) (i : Nat) (ch : Bool) (w0 w : World) (hs : Scan w0 w p a zs.length c i ch) (hv : View w0 a zs) (hp : w0.heap.size ≤ p) (hl : zs.length ≤ 1048576) (hi : i ≤ 9223372036854775807) :
    Calls Try.prog 16 #[.pointer (some ⟨p, 0, none⟩)] w fun e w' => e = .returned (.tuple #[]) ∧ Scan w0 w' p a zs.length c (land zs i) ch := by
  go_enter Try.func16, Try.ntmps16
  go_wp2
  go_loopg [] (zs.length - i) (fun g wr => ∃ k : Nat, i ≤ k ∧ k ≤ 9223372036854775807 ∧ zs.length ≤ k + g ∧ Scan w0 wr p a zs.length c k ch ∧ Hid (land zs k = land zs i))
  case atStart => exact ⟨i, Nat.le_refl _, hi, by omega, hs, rfl⟩
  case round =>
    obtain ⟨k, hk, hk2, hg, hsc, hla⟩ := hrel
    have hsc2 := hsc
    obtain ⟨c0, c1, c2, f1, hbel⟩ := hsc
    clear hs
    by_cases hlt : k < zs.length
    · obtain ⟨b, off, rfl, hc⟩ := hv k hlt
      have hbp : b < p := Nat.lt_of_lt_of_le (lt_of_cell hc) hp
      have hcr : wr.cell? ⟨b, off + k, none⟩ = some (.int .u8 (zs.getD k 0)) := by rw [hbel.cell (p := ⟨b, off + k, none⟩) hbp]; exact hc
      obtain ⟨x, ex⟩ : ∃ x, x = zs.getD k 0 := ⟨_, rfl⟩
      rw [← ex] at hcr
      have hgo := land_go zs k hlt
      have hst := land_stop zs k hlt
      rw [← ex] at hgo hst
      have HG : Hid (sp x = true → land zs k = land zs (k + 1)) := hgo
      have HS : Hid (sp x = false → land zs k = k) := hst
      clear ex hgo hst hv hc
      go_wp2
      go_quiet (fail)
      go_wp2
      go_quiet (fail)
      go_wp2
      · have HZ := HG.out (sp_yes x (.inl ‹_›))
        go_roundg (gk - 1)
        case measure => omega
        case rel => exact ⟨k + 1, by omega, by omega, by omega, (hsc2.drewN _).step, HZ.symm.trans hla.out⟩
      · have HZ := HG.out (sp_yes x (.inr (.inl ‹_›)))
        go_roundg (gk - 1)
        case measure => omega
        case rel => exact ⟨k + 1, by omega, by omega, by omega, (hsc2.drewN _).step, HZ.symm.trans hla.out⟩
      · have HZ := HG.out (sp_yes x (.inr (.inr (.inl ‹_›))))
        go_roundg (gk - 1)
        case measure => omega
        case rel => exact ⟨k + 1, by omega, by omega, by omega, (hsc2.drewN _).step, HZ.symm.trans hla.out⟩
      · have HZ := HG.out (sp_yes x (.inr (.inr (.inr ‹_›))))
        go_roundg (gk - 1)
        case measure => omega
        case rel => exact ⟨k + 1, by omega, by omega, by omega, (hsc2.drewN _).step, HZ.symm.trans hla.out⟩
      · have HZ : land zs i = k := hla.out.symm.trans (HS.out (sp_no x ‹_› ‹_› ‹_› ‹_›))
        (try simp only [Exit.inBlock, Exit.then])
        refine bodyPost_ret (results_none rfl _ _ _) rfl ?_
        refine ⟨rfl, ?_⟩
        rw [HZ]
        exact hsc2.drewN _
    · have HZ : Hid (land zs i = k) := hla.out.symm.trans (land_out zs k (by omega))
      go_wp2
      go_quiet (fail)
      go_wp2
      go_end0
      refine ⟨rfl, ?_⟩
      rw [HZ.out]
      exact hsc2.drewN _

theorem scan_new (w : World) (a : Option Addr) (n c i : Nat) (ch : Bool) : Scan w (w.alloc (.cells #[.slice a n c, .int .i64 i, .bool ch] 36)) w.heap.size a n c i ch := by
  have hb := heap_alloc_new w (.cells #[.slice a n c, .int .i64 i, .bool ch] 36)
  refine ⟨?_, ?_, ?_, frozen_of_row _ _ 1 _ 36 hb, (Below.refl _ _).alloc (Nat.le_refl _) _⟩
  · rw [cell_of_row _ _ 0 _ 36 (0, 0) hb]; rfl
  · rw [cell_of_row _ _ 1 _ 36 (0, 0) hb]; rfl
  · rw [cell_of_row _ _ 2 _ 36 (0, 0) hb]; rfl

set_option maxHeartbeats 400000 in
theorem zspace_any (c : Nat) (a : Option Addr) (zs : List Int) (i : Nat) (ch : Bool) (w : World) (hv : View w a zs) (hl : zs.length ≤ 1048576) (hi : i ≤ 9223372036854775807) :
    Calls Try.prog 13 #[.slice a zs.length c, .int .i64 i, .bool ch] w fun e w' => e = .returned (.tuple #[.int .i64 (land zs i : Nat), .bool ch]) ∧ Below w.heap.size w w' := by
  have hsc := scan_new w a zs.length c i ch
  obtain ⟨L, hL⟩ : ∃ L, L = land zs i := ⟨_, rfl⟩
  rw [← hL]
  have HL : Hid (L = land zs i) := hL
  clear hL
  go_enter Try.func13, Try.ntmps13
  go_wp2_with fail
  refine (space_any w.heap.size c a zs i ch w _ hsc hv (Nat.le_refl _) hl hi).mono ?_
  rintro e w' ⟨rfl, hs2⟩
  rw [← HL.out] at hs2
  clear hsc hv
  obtain ⟨c0, c1, c2, f1, hbel⟩ := hs2
  go_wp2
  go_quiet (fail)
  go_wp2
  go_ret2
  exact ⟨rfl, ⟨hbel.os, hbel.tape, hbel.output, hbel.size, hbel.block⟩⟩

/-! ### What the laws do first: 'if data != nil { zzc := make([]byte, len(data)); copy(zzc, data); data = zzc }' -/
theorem info5 : (Try.prog.info? 5).map (fun i => (i.zero, i.size, i.bytes)) = some (some (.int .u8 0), 1, 1) := by kernel_rfl
theorem size5 : (Try.prog.info? 5).map (·.size) = some 1 := by kernel_rfl

theorem neq22 (w : World) (a : Option Addr) (n c n' c' : Nat) : (binOp .neq 22 (.slice a n c) (.slice none n' c')).run Try.prog w = .ok (.bool (!a.isNone)) w :=
  run_neq_slice_nil_any w _ _ a n c n' c' Try.underlying22

theorem view_copy {w : World} {g : Nat} {cur : List Value} {zs : List Int} (hlen : cur.length = zs.length)
    (h : w.heap[g]? = some (.cells (splice cur 0 (zs.map (Value.int .u8))).toArray 5 (0, 0))) : View w (some ⟨g, 0, none⟩) zs := by
  intro i hi
  refine ⟨g, 0, rfl, ?_⟩
  rw [cell_of_row w g (0 + i) _ 5 (0, 0) h, Nat.zero_add]
  simp [splice, hlen, hi]

theorem src_cells {w : World} {x : Addr} {zs : List Int} (h : View w (some x) zs) : ∀ j v, (zs.map (Value.int .u8))[j]? = some v → w.cell? (x.add j) = some v := by
  intro j v hj
  have hl : j < zs.length := by
    have := (List.getElem?_eq_some_iff.1 hj).1
    simpa using this
  obtain ⟨b, off, e, hc⟩ := h j hl
  simp only [Option.some.injEq] at e
  subst e
  rw [WideShapes.add_plain, hc]
  rw [← hj]
  simp [List.getD_eq_getElem?_getD, hl]

theorem row_of {w : World} {B g n : Nat} {xs : List Value} (h : w.ownsRow B 5 1 (.slice (some ⟨g, 0, none⟩) n n) n xs) : ∃ cur : List Value, w.heap[g]? = some (.cells cur.toArray 5 (0, 0)) ∧ cur.length = n := by
  rcases h.2 with ⟨h', _⟩ | ⟨g', cap', cur, h', _, hg, _, _, hcs, _⟩
  · simp at h'
  · simp only [Value.slice.injEq, Option.some.injEq, Addr.mk.injEq, and_true, true_and] at h'
    obtain ⟨rfl, rfl⟩ := h'
    exact ⟨cur.toList, by simpa using hg, by simpa using hcs⟩

theorem ints_one (zs : List Int) : ∀ v ∈ zs.map (Value.int .u8), v.oneCell' = true := by
  intro v hv
  obtain ⟨s, _, rfl⟩ := List.mem_map.1 hv
  rfl
end Go.Proofs.Qxb6605376a.Sp
