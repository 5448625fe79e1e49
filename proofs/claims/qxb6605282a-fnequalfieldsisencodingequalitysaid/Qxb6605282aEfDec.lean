/-
  THE WALK of appendDecimal (26).
-/
import Derived.Test.Qxb6605282aProg
import Derived.Test.Qxb6605282aEfPlain
import Derived.WalkKit
import Derived.WalkSpells
import Derived.WalkLawsBesides
import Derived.Outline
namespace Go.Proofs.Qxb6605282a.Ef
open Go.RowKit
open Go.Proofs.Qxb6605282a.Enc
set_option linter.unusedVariables false

theorem info5 : (Try.prog.info? 5).map (fun i => (i.zero, i.size, i.bytes)) = some (some (.int .u8 0), 1, 1) := by kernel_rfl

def cell (c : UInt8) : Value := .int .u8 c.toNat

set_option maxHeartbeats 400000 in
theorem ad_zero (g k cap B : Nat) (xs : List Value) (w : World) (hown : w.ownsRow B 5 1 (.slice (some ⟨g, 0, none⟩) k cap) k xs) (hfit : k + 1 ≤ cap) (hB : B ≤ w.heap.size) (hg : B ≤ g) :
    Calls Try.prog 26 #[.slice (some ⟨g, 0, none⟩) k cap, .int .i64 0] w fun e w' => e = .returned (.slice (some ⟨g, 0, none⟩) (k + 1) cap) ∧
      w'.ownsRow B 5 1 (.slice (some ⟨g, 0, none⟩) (k + 1) cap) (k + 1) (xs ++ [cell 48]) ∧ Below B w w' := by
  obtain ⟨i0, hi, hz0, hz1, hz2⟩ := info_parts info5
  go_enter Try.func26, Try.ntmps26
  go_wp2_with (at_builtin; refine wpList_append_fits _ rfl _ _ 23 rfl B 5 i0 1 Try.underlying23 hi hz1 g k cap xs rfl ((hown.alloc _).alloc _) ⟨w.heap.size + 1, 0, none⟩ 1 1 [cell 48] rfl rfl ?c1 ?c2 hfit ?_)
  case c1 =>
    intro j u hj
    match j, hj with
    | 0, hj => simp at hj; subst hj; simp [Addr.add, cell]
  case c2 => intro u hu; simp at hu; subst hu; rfl
  intro w1 hown1 hgr1
  clear hown
  have hb := Below.grown (((Below.refl B w).alloc hB _).alloc (by simp; omega) _) hgr1 (by simp; omega) (fun k h => by cases h; exact hg)
  clear hgr1
  go_wp2
  go_ret
  exact ⟨rfl, hown1, hb⟩

theorem digs_step (f m : Nat) (h0 : 0 < m) (h : m < 10 ^ f) : ∃ f', f = f' + 1 ∧ m / 10 < 10 ^ f' ∧ digs f m = digs f' (m / 10) ++ [UInt8.ofNat (48 + m % 10)] := by
  cases f with
  | zero => simp at h; omega
  | succ f' =>
    refine ⟨f', rfl, by rw [Nat.pow_succ] at h; omega, ?_⟩
    rw [digs, if_neg (by omega)]

/-- The buffer: 24 cells, from place j on the digits D. -/
structure Buf (wr : World) (bb j : Nat) (D : List UInt8) (cur : Array Value) : Prop where
  blk : wr.heap[bb]? = some (.cells cur 47 (0, 0))
  size : cur.size = 24
  digits : cur.toList.drop j = D.map cell

theorem Buf.len {wr : World} {bb j : Nat} {D : List UInt8} {cur : Array Value} (h : Buf wr bb j D cur) : D.length = 24 - j := by
  have := congrArg List.length h.digits
  simp [h.size] at this
  omega

theorem Buf.store {wr : World} {bb p : Nat} {D : List UInt8} {cur : Array Value} (h : Buf wr bb (p + 1) D cur) (hp : p < 24) (v : Int) (c : UInt8) (hv : v = c.toNat) :
    Buf (wr.setCell ⟨bb, p, none⟩ (.int .u8 v)) bb p (c :: D) (cur.setIfInBounds p (.int .u8 v)) := by
  refine ⟨heap_setCell_same wr bb p cur 47 _ h.blk, by simp [h.size], ?_⟩
  rw [Array.toList_setIfInBounds, List.drop_set, if_neg (by omega), Nat.sub_self]
  rw [List.drop_eq_getElem_cons (by simp [h.size]; omega), List.set_cons_zero, h.digits, hv]
  rfl

theorem Buf.cellAt {wr : World} {bb j : Nat} {D : List UInt8} {cur : Array Value} (h : Buf wr bb j D cur) (t : Nat) (ht : t < D.length) : wr.cell? ⟨bb, j + t, none⟩ = some (.int .u8 (D[t].toNat)) := by
  rw [cell_of_row wr bb (j + t) cur 47 (0, 0) h.blk]
  have := congrArg (·[t]?) h.digits
  simp [List.getElem?_drop, ht] at this
  simpa [cell] using this

theorem ownsRow_below {B g k cap C : Nat} {xs : List Value} {w w' : World} (h : w.ownsRow B 5 1 (.slice (some ⟨g, 0, none⟩) k cap) k xs) (hb : Below C w w') (hg : g < C) : w'.ownsRow B 5 1 (.slice (some ⟨g, 0, none⟩) k cap) k xs := by
  obtain ⟨h1, h2⟩ := h
  refine ⟨h1, ?_⟩
  rcases h2 with h2 | ⟨g', cap', cur, hv, hg', hh, r⟩
  · exact Or.inl h2
  · have e : g' = g := by
      simp at hv; exact hv.1.symm
    subst e
    exact Or.inr ⟨g', cap', cur, hv, hg', by rw [hb.block g' hg]; exact hh, r⟩

theorem ownsRow_lt {B g k cap : Nat} {xs : List Value} {w : World} (h : w.ownsRow B 5 1 (.slice (some ⟨g, 0, none⟩) k cap) k xs) : g < w.heap.size := by
  rcases h.2 with ⟨h, _⟩ | ⟨g', cap', cur, h, _, hh, _⟩
  · simp at h
  · simp only [Value.slice.injEq, Option.some.injEq, Addr.mk.injEq, and_true] at h
    rw [← h.1] at hh
    exact (Array.getElem?_eq_some_iff.1 hh).1

set_option maxHeartbeats 400000 in
theorem ad_pos (g k cap B n : Nat) (xs : List Value) (w : World) (hown : w.ownsRow B 5 1 (.slice (some ⟨g, 0, none⟩) k cap) k xs) (hfit : k + 8 ≤ cap) (hB : B ≤ w.heap.size) (hg : B ≤ g)
    (hn0 : 0 < n) (hn : n ≤ 1048576) :
    Calls Try.prog 26 #[.slice (some ⟨g, 0, none⟩) k cap, .int .i64 n] w fun e w' => e = .returned (.slice (some ⟨g, 0, none⟩) (k + (digs 8 n).length) cap) ∧
      w'.ownsRow B 5 1 (.slice (some ⟨g, 0, none⟩) (k + (digs 8 n).length) cap) (k + (digs 8 n).length) (xs ++ (digs 8 n).map cell) ∧ Below B w w' := by
  obtain ⟨i0, hi, hz0, hz1, hz2⟩ := info_parts info5
  have hgl := ownsRow_lt hown
  have hLl := digs_len 8 n
  obtain ⟨L, hL⟩ : ∃ L, L = digs 8 n := ⟨_, rfl⟩
  rw [← hL] at hLl ⊢
  have HL : Hid (L = digs 8 n) := hL
  clear hL
  have HO : Hid (w.ownsRow B 5 1 (.slice (some ⟨g, 0, none⟩) k cap) k xs) := hown
  clear hown
  have hc0 : ((n : Int) == 0) = false := by simp; omega
  go_enter Try.func26, Try.ntmps26
  go_wp2
  go_loopw [1, 6] (fun m q wr => ∃ (j mm : Nat) (D : List UInt8) (cur : Array Value), 16 ≤ j ∧ j ≤ 24 ∧ m = .int .i64 mm ∧ q = .int .i64 j ∧ mm ≤ 1048576 ∧ Hid (mm < 10 ^ (j - 16)) ∧ Buf wr w.heap.size j D cur ∧ Hid (digs 8 n = digs (j - 16) mm ++ D) ∧ Below w.heap.size w wr)
    (fun m _ _ => (intOf m).toNat)
  case atStart =>
    exact ⟨24, n, [], _, by omega, by omega, rfl, rfl, hn, show n < 10 ^ 8 by omega, ⟨heap_alloc_new _ _, rfl, rfl⟩, show _ = _ by simp, (Below.refl _ _).alloc (Nat.le_refl _) _⟩
  case round =>
    obtain ⟨j, mm, D, cur, hj1, hj2, rfl, rfl, hm, hp, hbuf, hd, hbel⟩ := hrel
    by_cases h0 : 0 < mm
    · obtain ⟨f', hf, hp', hd'⟩ := digs_step (j - 16) mm h0 hp.out
      obtain ⟨p, rfl⟩ : ∃ p, j = p + 1 := ⟨j - 1, by omega⟩
      have hf' : f' = p - 16 := by omega
      have hp24 : p < 24 := by omega
      have hp16 : 16 ≤ p := by omega
      subst hf'
      have HP : Hid (mm / 10 < 10 ^ (p - 16)) := hp'
      have HD : Hid (digs 8 n = digs (p - 16) (mm / 10) ++ (UInt8.ofNat (48 + mm % 10) :: D)) := show _ = _ by rw [hd.out, hd']; simp
      obtain ⟨v0, hc⟩ : ∃ v0, wr.cell? ⟨w.heap.size, p, none⟩ = some v0 := ⟨cur[p]'(by have := hbuf.size; omega), by rw [cell_of_row wr _ p cur 47 (0, 0) hbuf.blk, Array.getElem?_eq_getElem]⟩
      have hfz : wr.frozen? ⟨w.heap.size, p, none⟩ = false := frozen_of_row wr _ p cur 47 hbuf.blk
      clear hf hp' hd' hp hd
      go_wp2
      go_roundw
      case rel => exact ⟨p, mm / 10, UInt8.ofNat (48 + mm % 10) :: D, _, hp16, by omega, by go_num, rfl, by omega, HP, hbuf.store hp24 _ _ (by rw [digit_toNat _ (by omega)]; omega), HD, hbel.setCell (Nat.le_refl _) _⟩
      case measure => simp [intOf]; omega
    · have hD : D = L := by
        obtain rfl : mm = 0 := by omega
        rw [HL.out, hd.out, digs_zero]; rfl
      subst hD
      have hlen := hbuf.len
      have hjl : j + D.length = 24 := by omega
      have HJ : Hid (j + D.length = 24) := hjl
      have hown := ownsRow_below HO.out hbel hgl
      have hbB := hbel.mono hB
      have hsz := hbel.size
      have hbl : w.heap.size < wr.heap.size := (Array.getElem?_eq_some_iff.1 hbuf.blk).1
      clear hd hp hlen HO hbel HL hjl
      go_wp2
      go_loopw [0, 6] (fun o q wq => ∃ t : Nat, j + t ≤ 24 ∧ t ≤ D.length ∧ q = .int .i64 (j + t : Nat) ∧ o = .slice (some ⟨g, 0, none⟩) (k + t) cap ∧ wq.ownsRow B 5 1 (.slice (some ⟨g, 0, none⟩) (k + t) cap) (k + t) (xs ++ (D.take t).map cell) ∧ Buf wq w.heap.size j D cur ∧ Below B w wq ∧ w.heap.size < wq.heap.size)
        (fun _ q _ => 24 - (intOf q).toNat)
      case atStart => exact ⟨0, by omega, by omega, rfl, rfl, by simpa using hown, hbuf, hbB, hbl⟩
      case round =>
        obtain ⟨wo, rfl⟩ : ∃ wo : World, wo = wr := ⟨_, rfl⟩
        obtain ⟨t, ht1, ht2, rfl, rfl, ho, hbf, hbw, hlw⟩ := hrel
        clear hown hbuf hbB hbl hsz
        by_cases hlt : t < D.length
        · have hlt2 : j + t < 24 := by have := HJ.out; omega
          have hc := hbf.cellAt t hlt
          obtain ⟨c, ec⟩ : ∃ c, c = D[t] := ⟨_, rfl⟩
          rw [← ec] at hc
          have HC : Hid (D.take (t + 1) = D.take t ++ [c]) := show _ = _ by rw [ec, List.take_succ_eq_append_getElem hlt]
          clear ec
          go_wp2_with (at_builtin; refine wpList_append_fits _ rfl _ _ 23 rfl B 5 i0 1 Try.underlying23 hi hz1 g (k + t) cap _ rfl (ho.alloc _) ⟨wo.heap.size, 0, none⟩ 1 1 [cell c] rfl rfl ?c1 ?c2 (by omega) ?_)
          case c1 =>
            intro i u hu
            match i, hu with
            | 0, hu => simp at hu; subst hu; simp [Addr.add, cell]
          case c2 => intro u hu; simp at hu; subst hu; rfl
          intro w1 hown1 hgr1
          have hb1 := Below.grown (hbw.alloc (by omega) _) hgr1 (by simp; omega) (fun k h => by cases h; exact hg)
          have hbf1 : Buf w1 w.heap.size j D cur := ⟨by rw [hgr1.block _ (by simp; omega) (by simp; omega), Below.heap_alloc _ _ _ hlw]; exact hbf.blk, hbf.size, hbf.digits⟩
          have hs1 : w.heap.size < w1.heap.size := by have := hgr1.size; simp at this; omega
          clear hgr1 ho hbf hbw
          go_wp2
          go_roundw
          case rel =>
            have ho2 : w1.ownsRow B 5 1 (.slice (some ⟨g, 0, none⟩) (k + (t + 1)) cap) (k + (t + 1)) (xs ++ (D.take (t + 1)).map cell) := by
              rw [HC.out, List.map_append, List.map_take]; exact hown1
            first
            | exact ⟨t + 1, by omega, by omega, by go_num, rfl, ho2, hbf1, hb1, hs1⟩
            | ((repeat apply Exists.intro); exact ⟨⟨t + 1, by omega, by omega, by go_num, rfl, ho2, hbf1, hb1, hs1⟩, rfl⟩)
          case measure => simp [intOf]; omega
        · have htl : t = D.length := by omega
          subst htl
          have hend : 24 ≤ j + D.length := by have := HJ.out; omega
          rw [List.take_length] at ho
          go_wp2
          go_ret
          exact ⟨rfl, ho, hbw⟩

/-- 'appendDecimal(out, n)': out, with room for it, grows by the decimal digits of n. -/
theorem ad_any (g k cap B n : Nat) (xs : List Value) (w : World) (hown : w.ownsRow B 5 1 (.slice (some ⟨g, 0, none⟩) k cap) k xs) (hfit : k + 8 ≤ cap) (hB : B ≤ w.heap.size) (hg : B ≤ g) (hn : n ≤ 1048576) :
    Calls Try.prog 26 #[.slice (some ⟨g, 0, none⟩) k cap, .int .i64 n] w fun e w' => e = .returned (.slice (some ⟨g, 0, none⟩) (k + (dec n).length) cap) ∧
      w'.ownsRow B 5 1 (.slice (some ⟨g, 0, none⟩) (k + (dec n).length) cap) (k + (dec n).length) (xs ++ (dec n).map cell) ∧ Below B w w' := by
  unfold dec
  by_cases h : n = 0
  · subst h
    rw [if_pos rfl]
    exact ad_zero g k cap B xs w hown (by omega) hB hg
  · rw [if_neg h]
    exact ad_pos g k cap B n xs w hown hfit hB hg (by omega) hn
end Go.Proofs.Qxb6605282a.Ef
