/-
  THE WALK of FnEqualFieldsIsEncodingEquality (7).
-/
import Derived.Test.Qxb6605282aEfEnc
import Derived.Laws.CopyOwn
import Derived.Laws.IdiomStrings
import Derived.WideShapes
import Derived.Deep.RegionWith
import Derived.Deep.Draws
import Derived.Deep.DeepCutAuto
namespace Go.Proofs.Qxb6605282a.Ef
open Go.RowKit Go.WideShapes
open Go.Proofs.Qxb6605282a.Enc
set_option linter.unusedVariables false

theorem info9 : (Try.prog.info? 9).map (fun i => (i.zero, i.size, i.bytes)) = some (some (.string ByteArray.empty), 1, 16) := by kernel_rfl
theorem size9 : (Try.prog.info? 9).map (·.size) = some 1 := by kernel_rfl

theorem View.below {w w' : World} {a : Option Addr} {ss : List ByteArray} (h : View w a ss) {C : Nat} (hb : Below C w w') (hC : w.heap.size ≤ C) : View w' a ss := by
  intro i hi
  obtain ⟨b, off, e, hc⟩ := h i hi
  exact ⟨b, off, e, by rw [hb.cell (p := ⟨b, off + i, none⟩) (Nat.lt_of_lt_of_le (lt_of_cell hc) hC)]; exact hc⟩

theorem view_copy {w : World} {g : Nat} {cur : List Value} {ss : List ByteArray} (hlen : cur.length = ss.length)
    (h : w.heap[g]? = some (.cells (splice cur 0 (ss.map Value.string)).toArray 9 (0, 0))) : View w (some ⟨g, 0, none⟩) ss := by
  intro i hi
  refine ⟨g, 0, rfl, ?_⟩
  rw [cell_of_row w g (0 + i) _ 9 (0, 0) h, Nat.zero_add]
  simp [splice, hlen, hi]

theorem src_cells {w : World} {x : Addr} {ss : List ByteArray} (h : View w (some x) ss) : ∀ j v, (ss.map Value.string)[j]? = some v → w.cell? (x.add j) = some v := by
  intro j v hj
  have hl : j < ss.length := by
    have := (List.getElem?_eq_some_iff.1 hj).1
    simpa using this
  obtain ⟨b, off, e, hc⟩ := h j hl
  simp only [Option.some.injEq] at e
  subst e
  rw [add_plain, hc]
  rw [← hj]
  simp [List.getD_eq_getElem?_getD, hl]

theorem row_of {w : World} {B g n : Nat} {xs : List Value} (h : w.ownsRow B 9 1 (.slice (some ⟨g, 0, none⟩) n n) n xs) : ∃ cur : List Value, w.heap[g]? = some (.cells cur.toArray 9 (0, 0)) ∧ cur.length = n := by
  rcases h.2 with ⟨h', _⟩ | ⟨g', cap', cur, h', _, hg, _, _, hcs, _⟩
  · simp at h'
  · simp only [Value.slice.injEq, Option.some.injEq, Addr.mk.injEq, and_true, true_and] at h'
    obtain ⟨rfl, rfl⟩ := h'
    exact ⟨cur.toList, by simpa using hg, by simpa using hcs⟩

theorem strings_oneCell (ss : List ByteArray) : ∀ v ∈ ss.map Value.string, v.oneCell' = true := by
  intro v hv
  obtain ⟨s, _, rfl⟩ := List.mem_map.1 hv
  rfl

/-- The encoding as a Go text. -/
def encS (ss : List ByteArray) : ByteArray := ⟨(enc ss).toArray⟩

theorem run_enc (ss : List ByteArray) (g cap B : Nat) (W : World) (hown : W.ownsRow B 5 1 (.slice (some ⟨g, 0, none⟩) (enc ss).length cap) (enc ss).length ((enc ss).map cell)) :
    (convert 23 9 (.slice (some ⟨g, 0, none⟩) (enc ss).length cap)).run Try.prog W = .ok (.string (encS ss)) W :=
  run_convert_bytes_back (P := Try.prog) W 23 9 5 ⟨g, 0, none⟩ cap (enc ss) Try.underlying23 Try.underlying5 Try.underlying9 (fun j hj => by
    rw [add_plain, Nat.zero_add, hown.cellAt j (by omega)]
    simp [hj, cell])

theorem encS_eq (ss tt : List ByteArray) : ((encS ss).toList == (encS tt).toList) = (enc ss == enc tt) := by
  have e : ∀ s : List ByteArray, (encS s).toList = enc s := fun s => by
    rw [ByteArray.toList_eq]
    rfl
  rw [e, e]

theorem owns_later {B g k cap C : Nat} {xs : List Value} {w w' : World} (h : w.ownsRow B 5 1 (.slice (some ⟨g, 0, none⟩) k cap) k xs) (hb : Below w.heap.size w w') : w'.ownsRow B 5 1 (.slice (some ⟨g, 0, none⟩) k cap) k xs :=
  ownsRow_below h hb (ownsRow_lt h)

/-- 'encodeFields(fs)' and, at whatever later world, 'string(..)' of what it hands back. -/
theorem encc (a : Option Addr) (c : Nat) (ss : List ByteArray) (S : ByteArray) (hS : Hid (S = encS ss)) (w : World) (hv : View w a ss) (hn : 16 * ss.length + total ss ≤ 1048576) :
    Calls Try.prog 22 #[.slice a ss.length c] w fun e w' => ∃ g n cap, e = .returned (.slice (some ⟨g, 0, none⟩) n cap) ∧ Below w.heap.size w w' ∧
      Hid (∀ W, Below w'.heap.size w' W → (convert 23 9 (.slice (some ⟨g, 0, none⟩) n cap)).run Try.prog W = .ok (.string S) W) :=
  (enc_any a c ss w hv hn).mono fun e w' ⟨h1, h2, h3⟩ => ⟨_, _, _, h1, h3, fun W hW => by rw [hS.out]; exact run_enc ss _ _ _ W (owns_later (C := 0) h2 hW)⟩

theorem zef' (a0 a1 : Option Addr) (c0 c1 : Nat) (ss tt : List ByteArray) (r : Bool) (hr : Hid (r = decide (ss = tt))) (w : World) (h0 : View w a0 ss) (h1 : View w a1 tt) (b0 : ss.length ≤ 1048576) (b1 : tt.length ≤ 1048576) :
    Calls Try.prog 21 #[.slice a0 ss.length c0, .slice a1 tt.length c1] w fun e w' => e = .returned (.bool r) ∧ w' = w := by
  rw [hr.out]
  exact zef_any a0 a1 c0 c1 ss tt w h0 h1 b0 b1

set_option maxHeartbeats 1000000 in
theorem walk (a0 a1 : Option Addr) (c0 c1 : Nat) (ss tt : List ByteArray) (w : World) (h0 : View w a0 ss) (h1 : View w a1 tt) (b0 : ss.length ≤ maxLen) (b1 : tt.length ≤ maxLen)
    (s0 : ∀ s ∈ ss, s.size ≤ maxLen) (s1 : ∀ s ∈ tt, s.size ≤ maxLen) :
    Calls Try.prog 7 #[.slice a0 ss.length c0, .slice a1 tt.length c1] w fun e w' => e = .returned (.bool true) ∧ Below w.heap.size w w' := by
  have q36 : ∀ (w : World) (a : Option Addr) (n c n' c' : Nat), (binOp .neq 36 (.slice a n c) (.slice none n' c')).run Try.prog w = .ok (.bool (!a.isNone)) w := fun w a n c n' c' => run_neq_slice_nil_any w _ _ a n c n' c' Try.underlying36
  obtain ⟨i0, hi, hz0, hz1, hz2⟩ := info_parts info9
  go_enter Try.func7, Try.ntmps7
  go_wp2_with fail
  refine (guard_any a0 a1 c0 c1 ss tt w h0 h1 b0 b1 s0 s1).mono ?_
  rintro e w' ⟨r, rfl, rfl, hr⟩
  unfold maxLen at b0 b1
  clear s0 s1
  cases r
  · go_wp2
    go_ret
    exact ⟨rfl, Below.refl _ _⟩
  have hr := hr rfl
  by_cases l0 : 65536 < ss.length
  · go_wp2
    go_ret
    exact ⟨rfl, Below.refl _ _⟩
  by_cases l1 : 65536 < tt.length
  · go_wp2
    go_ret
    exact ⟨rfl, Below.refl _ _⟩
  go_wp2_with fail
  refine (fb_any a0 c0 ss _ h0 (by omega)).mono ?_
  rintro e w2 ⟨r0, rfl, rfl, hp0, hp1, hp2⟩
  go_wp2_with fail
  refine (fb_any a1 c1 tt _ h1 (by omega)).mono ?_
  rintro e w2 ⟨r1, rfl, rfl, hq0, hq1, hq2⟩
  by_cases hs : 1048576 < r0 + r1
  · clear hp2 hq2
    go_wp2
    go_ret
    exact ⟨rfl, Below.refl _ _⟩
  have n0 : 16 * ss.length + total ss ≤ 1048576 := by omega
  have n1 : 16 * tt.length + total tt ≤ 1048576 := by omega
  clear hp2 hq2 hr
  go_upto_if 28 with fail
  go_cut [0, 5] (fun t0 t5 wc => ∃ a' c', t0 = .slice a' ss.length c' ∧ View wc a' ss ∧ Below w2.heap.size w2 wc)
  case first =>
    cases a0 with
    | none =>
      go_wp2
      go_meet
      exact ⟨none, c0, rfl, h0, Below.refl _ _⟩
    | some x =>
      go_wp2_with (at_make; refine wpList_make_full _ rfl _ _ 36 rfl w2.heap.size 9 i0 (.string ByteArray.empty) 1 Try.underlying36 hi hz0 hz1 .i64 .i64 _ _ ss.length rfl rfl rfl rfl (by rw [hz2]; omega) (by unfold maxLen; omega) (Nat.le_refl _) ?_)
      intro w3 hown hgr
      have hlow := Below.grown (Below.refl w2.heap.size w2) hgr (Nat.le_refl _) (fun k h => by cases h)
      obtain ⟨cur, hg, hcl⟩ := row_of hown
      have hsrc := src_cells (h0.below hlow (Nat.le_refl _))
      have HSRC : Hid (∀ j v, (ss.map Value.string)[j]? = some v → w3.cell? (x.add j) = some v) := hsrc
      have HG : Hid (w3.heap[w2.heap.size]? = some (.cells cur.toArray 9 (0, 0))) := hg
      have HCL : Hid (cur.length = ss.length) := hcl
      clear hgr hown hsrc hg hcl
      go_wp2_with (refine wpList_copy_splice rfl (.tmp 32) (.tmp 33) 36 36 rfl 9 Try.underlying36 size9 (some ⟨w2.heap.size, 0, none⟩) (some x) ss.length ss.length ss.length c0 rfl rfl w2.heap.size 0 cur 9 HG.out (ss.map Value.string) (by simp) (fun _ => ⟨rfl, x, rfl, HSRC.out⟩) (by rw [HCL.out]; simp) (strings_oneCell ss) w2.heap.size w2 hlow (Nat.le_refl _) ?_)
      intro w4 HG4 hb4
      have hv4 := view_copy HCL.out HG4.out
      clear HG4 HG HSRC HCL hlow
      go_wp2
      go_meet
      exact ⟨_, _, rfl, hv4, hb4⟩
  case rest =>
    obtain ⟨a0', c0', rfl, g0, hb⟩ := hcut
    have g1 := h1.below hb (Nat.le_refl _)
    clear h0 h1
    go_upto_if 37 with fail
    obtain ⟨wk, rfl⟩ : ∃ wk : World, wk = wc := ⟨_, rfl⟩
    go_cut [1, 6] (fun t1 t6 wd => ∃ a' c', t1 = .slice a' tt.length c' ∧ View wd a' tt ∧ View wd a0' ss ∧ Below w2.heap.size w2 wd)
    case first =>
      cases a1 with
      | none =>
        go_wp2
        go_meet
        exact ⟨none, c1, rfl, g1, g0, hb⟩
      | some x =>
        go_wp2_with (at_make; refine wpList_make_full _ rfl _ _ 36 rfl wk.heap.size 9 i0 (.string ByteArray.empty) 1 Try.underlying36 hi hz0 hz1 .i64 .i64 _ _ tt.length rfl rfl rfl rfl (by rw [hz2]; omega) (by unfold maxLen; omega) (Nat.le_refl _) ?_)
        intro w3 hown hgr
        have hlow := Below.grown (Below.refl wk.heap.size wk) hgr (Nat.le_refl _) (fun k h => by cases h)
        obtain ⟨cur, hg, hcl⟩ := row_of hown
        have hsrc := src_cells (g1.below hlow (Nat.le_refl _))
        have HSRC : Hid (∀ j v, (tt.map Value.string)[j]? = some v → w3.cell? (x.add j) = some v) := hsrc
        have HG : Hid (w3.heap[wk.heap.size]? = some (.cells cur.toArray 9 (0, 0))) := hg
        have HCL : Hid (cur.length = tt.length) := hcl
        clear hgr hown hsrc hg hcl
        go_wp2_with (refine wpList_copy_splice rfl (.tmp 41) (.tmp 42) 36 36 rfl 9 Try.underlying36 size9 (some ⟨wk.heap.size, 0, none⟩) (some x) tt.length tt.length tt.length c1 rfl rfl wk.heap.size 0 cur 9 HG.out (tt.map Value.string) (by simp) (fun _ => ⟨rfl, x, rfl, HSRC.out⟩) (by rw [HCL.out]; simp) (strings_oneCell tt) wk.heap.size wk hlow (Nat.le_refl _) ?_)
        intro w4 HG4 hb4
        have hv4 := view_copy HCL.out HG4.out
        clear HG4 HG HSRC HCL hlow
        go_wp2
        go_meet
        exact ⟨_, _, rfl, hv4, g0.below hb4 (Nat.le_refl _), hb.trans (hb4.mono hb.size)⟩
    case rest =>
      obtain ⟨a1', c1', rfl, k1, k0, hb'⟩ := hcut
      clear g0 g1 hb
      have hmem0 : ∀ s ∈ ss, s.size < 10 ^ 8 := fun s hs => by have := size_le_total ss s hs; omega
      have hmem1 : ∀ s ∈ tt, s.size < 10 ^ 8 := fun s hs => by have := size_le_total tt s hs; omega
      have hlaw := law ss tt hmem0 hmem1
      rw [← encS_eq] at hlaw
      have HLAW : Hid (decide (ss = tt) = ((encS ss).toList == (encS tt).toList)) := hlaw
      clear hlaw hmem0 hmem1
      obtain ⟨S, eS⟩ : ∃ S, S = encS ss := ⟨_, rfl⟩
      obtain ⟨T, eT⟩ : ∃ T, T = encS tt := ⟨_, rfl⟩
      obtain ⟨r, er⟩ : ∃ r, r = decide (ss = tt) := ⟨_, rfl⟩
      have ER : Hid (r = decide (ss = tt)) := er
      have ES : Hid (S = encS ss) := eS
      have ET : Hid (T = encS tt) := eT
      have k0d : View wc.drew a0' ss := k0
      have k1d : View wc.drew a1' tt := k1
      clear er eS eT
      go_wp2_with fail
      go_region_with (first
        | (go_at_call 21; refine (zef' a0' a1' c0' c1' ss tt r ER _ ?_ ?_ (by omega) (by omega)).mono ?_; exact k0d; exact k1d; rintro e wx ⟨rfl, rfl⟩)
        | (go_at_call_of 22 (Value.slice a0' ss.length c0'); refine (encc a0' c0' ss S ES _ ?_ n0).mono ?_; exact k0d; rintro e wA ⟨gA, nA, pA, rfl, hbA, hA⟩; have cA := hA.out wA (Below.refl _ _))
        | (go_at_call_of 22 (Value.slice a1' tt.length c1'); refine (encc a1' c1' tt T ET _ ?_ n1).mono ?_; exact k1d.below hbA (Nat.le_refl _); rintro e wB ⟨gB, nB, pB, rfl, hbB, hB⟩; have cB := hB.out wB (Below.refl _ _); have cA' := hA.out wB hbB))
      all_goals
        go_wp2
        go_ret
        refine ⟨?_, ?_⟩
        · exact ret_bool (a := (r == (S.toList == T.toList))) (by rw [ER.out, ES.out, ET.out, ← HLAW.out]; simp)
        · have hA2 : Below wc.heap.size wc wA := ⟨hbA.os, hbA.tape, hbA.output, hbA.size, hbA.block⟩
          have hAB : Below wc.heap.size wc wB := hA2.trans (hbB.mono hbA.size)
          exact hb'.trans (hAB.mono hb'.size)
end Go.Proofs.Qxb6605282a.Ef
