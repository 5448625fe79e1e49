/-
  THE WALK of encodeFields (22).
-/
import Derived.Test.Qxb6605282aEfRead
import Derived.Test.Qxb6605282aEfDec
namespace Go.Proofs.Qxb6605282a.Ef
open Go.RowKit
open Go.Proofs.Qxb6605282a.Enc
set_option linter.unusedVariables false

theorem lt_of_cell {w : World} {a : Addr} {v : Value} (h : w.cell? a = some v) : a.block < w.heap.size := by
  by_cases hl : a.block < w.heap.size
  · exact hl
  · unfold World.cell? at h
    rw [Array.getElem?_eq_none (by omega)] at h
    simp at h

theorem bytes_take (s : ByteArray) (t : Nat) (h : t < s.size) : (bts s).take (t + 1) = (bts s).take t ++ [s[t]] := by
  unfold bts
  rw [List.take_succ_eq_append_getElem (by simpa using h)]; rfl

theorem one_new (W : World) (c : UInt8) : ∀ j u, [cell c][j]? = some u → (W.alloc (.cells #[.int .u8 c.toNat] 5)).cell? ((⟨W.heap.size, 0, none⟩ : Addr).add j) = some u := by
  intro j u hj
  match j, hj with
  | 0, hj => simp at hj; subst hj; simp [Addr.add, cell]

theorem one_cell (c : UInt8) : ∀ u ∈ [cell c], u.oneCell' = true := by
  intro u hu; simp at hu; subst hu; rfl

set_option maxHeartbeats 800000 in
theorem enc_any (a : Option Addr) (c : Nat) (ss : List ByteArray) (w : World) (hv : View w a ss) (hn : 16 * ss.length + total ss ≤ 1048576) :
    Calls Try.prog 22 #[.slice a ss.length c] w fun e w' => e = .returned (.slice (some ⟨w.heap.size, 0, none⟩) (enc ss).length (16 * ss.length + total ss)) ∧
      w'.ownsRow w.heap.size 5 1 (.slice (some ⟨w.heap.size, 0, none⟩) (enc ss).length (16 * ss.length + total ss)) (enc ss).length ((enc ss).map cell) ∧ Below w.heap.size w w' := by
  obtain ⟨i0, hi, hz0, hz1, hz2⟩ := info_parts info5
  have HB : Hid (ss.length + total ss ≤ 1048576) := show _ ≤ _ by omega
  have hsl : ss.length ≤ 1048576 := by omega
  obtain ⟨cap, hcap⟩ : ∃ cap, cap = 16 * ss.length + total ss := ⟨_, rfl⟩
  rw [← hcap] at hn ⊢
  have HCAP : Hid (cap = 16 * ss.length + total ss) := hcap
  clear hcap
  go_enter Try.func22, Try.ntmps22
  go_wp2_with fail
  refine (fb_any a c ss w hv HB.out).mono ?_
  rintro e w' ⟨r, rfl, rfl, hr0, hr1, hr2⟩
  obtain rfl : r = (cap : Int) := by have := HCAP.out; omega
  clear hr0 hr1 hr2
  go_wp2_with (at_make; refine wpList_make_own _ rfl _ _ 23 rfl w'.heap.size 5 i0 (.int .u8 0) 1 Try.underlying23 hi hz0 hz1 .i64 .i64 _ cap rfl rfl rfl (by rw [hz2]; omega) (by unfold maxLen; omega) (Nat.le_refl _) ?_)
  intro w1 hown hgr
  have hlow := Below.grown (Below.refl w'.heap.size w') hgr (Nat.le_refl _) (fun k h => by cases h)
  clear hgr
  go_wp2
  go_loopw [3, 4, 5] (fun o i j wr => ∃ (k : Nat) (E : List UInt8), k ≤ ss.length ∧ i = .int .i64 k ∧ Hid (E = enc (ss.take k)) ∧ o = .slice (some ⟨w'.heap.size, 0, none⟩) E.length cap ∧ wr.ownsRow w'.heap.size 5 1 (.slice (some ⟨w'.heap.size, 0, none⟩) E.length cap) E.length (E.map cell) ∧ Below w'.heap.size w' wr)
    (fun _ i _ _ => ss.length - (intOf i).toNat)
  case atStart => exact ⟨0, [], Nat.zero_le _, rfl, rfl, rfl, hown, hlow⟩
  case round =>
    obtain ⟨k, E, hk, rfl, hE, rfl, ho, hb⟩ := hrel
    clear hown hlow
    by_cases hlt : k < ss.length
    · obtain ⟨b, off, rfl, hc⟩ := hv k hlt
      have hbl : b < w'.heap.size := lt_of_cell hc
      have hst := total_step ss k hlt
      have hle := total_take_le ss (k + 1)
      have hel := enc_len (ss.take k)
      have hen : enc (ss.take (k + 1)) = enc (ss.take k) ++ enc1 (ss.getD k ByteArray.empty) := by rw [take_snoc ss k hlt, enc_snoc]
      rw [← hE.out] at hel hen
      obtain ⟨s, hs⟩ : ∃ s, s = ss.getD k ByteArray.empty := ⟨_, rfl⟩
      rw [← hs] at hc hst hen
      have hdl := dec_len s.size
      have hsz : s.size ≤ 1048576 := by have := HB.out; omega
      have hroom : E.length + 8 + 1 + s.size ≤ cap := by
        have := HCAP.out
        have : (ss.take k).length = k := by rw [List.length_take]; omega
        omega
      have HEN : Hid (enc (ss.take (k + 1)) = E ++ enc1 s) := hen
      have hcr : wr.cell? ⟨b, off + k, none⟩ = some (.string s) := by rw [hb.cell (p := ⟨b, off + k, none⟩) hbl]; exact hc
      have hwr := hb.size
      clear hs hst hle hel hen hv HB HCAP hE
      go_wp2_with fail
      have hcall := ad_any w'.heap.size E.length cap w'.heap.size s.size (E.map cell) wr ho (by omega) hwr (Nat.le_refl _) hsz
      obtain ⟨d, hd⟩ : ∃ d, d = dec s.size := ⟨_, rfl⟩
      rw [← hd] at hcall hdl
      have HEN2 : Hid (enc (ss.take (k + 1)) = E ++ (d ++ 58 :: bts s)) := show _ = _ by rw [HEN.out, enc1, hd]
      clear hd HEN
      refine hcall.mono ?_
      clear hcall
      rintro e w2 ⟨rfl, ho2, hb2⟩
      have hbe2 := hb.trans hb2
      have hw2 := hbe2.size
      clear hb hb2 ho hcr
      have hcr : w2.cell? ⟨b, off + k, none⟩ = some (.string s) := by rw [hbe2.cell (p := ⟨b, off + k, none⟩) hbl]; exact hc
      go_wp2_with (at_builtin; refine wpList_append_fits _ rfl _ _ 23 rfl w'.heap.size 5 i0 1 Try.underlying23 hi hz1 w'.heap.size (E.length + d.length) cap _ rfl (ho2.alloc _) ⟨w2.heap.size, 0, none⟩ 1 1 [cell 58] rfl rfl (one_new w2 58) (one_cell 58) (by omega) ?_)
      intro w3 ho3 hgr3
      have hbe3 := Below.grown (hbe2.alloc hw2 _) hgr3 (by simp; omega) (fun k h => by cases h; exact Nat.le_refl _)
      clear hgr3 ho2 hbe2 hcr
      have ho4 : w3.ownsRow w'.heap.size 5 1 (.slice (some ⟨w'.heap.size, 0, none⟩) (E.length + d.length + 1) cap) (E.length + d.length + 1) ((E ++ d ++ [58]).map cell) := by
        simp only [List.map_append, List.append_assoc] at ho3 ⊢; exact ho3
      clear ho3
      go_wp2
      go_loopw [3, 5] (fun o j wq => ∃ t : Nat, t ≤ s.size ∧ j = .int .i64 t ∧ o = .slice (some ⟨w'.heap.size, 0, none⟩) (E.length + d.length + 1 + t) cap ∧ wq.ownsRow w'.heap.size 5 1 (.slice (some ⟨w'.heap.size, 0, none⟩) (E.length + d.length + 1 + t) cap) (E.length + d.length + 1 + t) ((E ++ d ++ [58] ++ (bts s).take t).map cell) ∧ Below w'.heap.size w' wq)
        (fun _ j _ => s.size - (intOf j).toNat)
      case atStart => exact ⟨0, Nat.zero_le _, rfl, rfl, by simpa using ho4, hbe3⟩
      case round =>
        obtain ⟨wo, rfl⟩ : ∃ wo : World, wo = wr := ⟨_, rfl⟩
        obtain ⟨t, ht, rfl, rfl, hq, hbq⟩ := hrel
        have hcq : wo.cell? ⟨b, off + k, none⟩ = some (.string s) := by rw [hbq.cell (p := ⟨b, off + k, none⟩) hbl]; exact hc
        have hwq := hbq.size
        clear ho4 hbe3
        by_cases htl : t < s.size
        · have HT : Hid ((bts s).take (t + 1) = (bts s).take t ++ [s[t]]) := bytes_take s t htl
          go_wp2_with (at_builtin; refine wpList_append_fits _ rfl _ _ 23 rfl w'.heap.size 5 i0 1 Try.underlying23 hi hz1 w'.heap.size (E.length + d.length + 1 + t) cap _ rfl (hq.alloc _) ⟨wo.heap.size, 0, none⟩ 1 1 [cell s[t]] rfl rfl (one_new wo s[t]) (one_cell s[t]) (by omega) ?_)
          intro w4 ho5 hgr4
          have hb5 := Below.grown (hbq.alloc hwq _) hgr4 (by simp; omega) (fun k h => by cases h; exact Nat.le_refl _)
          have ho6 : w4.ownsRow w'.heap.size 5 1 (.slice (some ⟨w'.heap.size, 0, none⟩) (E.length + d.length + 1 + (t + 1)) cap) (E.length + d.length + 1 + (t + 1)) ((E ++ d ++ [58] ++ (bts s).take (t + 1)).map cell) := by
            rw [HT.out]
            simp only [List.map_append, List.map_take, List.append_assoc] at ho5 ⊢
            exact ho5
          clear ho5 hgr4 hq hbq
          go_wp2
          go_roundw
          case rel =>
            first
            | exact ⟨t + 1, by omega, by go_num, rfl, ho6, hb5⟩
            | ((repeat apply Exists.intro); exact ⟨⟨t + 1, by omega, by go_num, rfl, ho6, hb5⟩, rfl⟩)
          case measure => simp [intOf]; omega
        · have hts : t = s.size := by omega
          have hF : Hid (enc (ss.take (k + 1)) = E ++ d ++ [58] ++ bts s) := show _ = _ by rw [HEN2.out]; simp
          have hFl : (E ++ d ++ [58] ++ bts s).length = E.length + d.length + 1 + t := by simp [bytes_len, hts]; omega
          have ho7 : wo.ownsRow w'.heap.size 5 1 (.slice (some ⟨w'.heap.size, 0, none⟩) (E.length + d.length + 1 + t) cap) (E.length + d.length + 1 + t) ((E ++ d ++ [58] ++ bts s).map cell) := by
            rw [List.take_of_length_le (by rw [bytes_len]; omega)] at hq
            exact hq
          clear hq hts HEN2
          obtain ⟨F, eF⟩ : ∃ F, F = E ++ d ++ [58] ++ bts s := ⟨_, rfl⟩
          rw [← eF] at hF hFl ho7
          have HFL : Hid (F.length = E.length + d.length + 1 + t) := hFl
          clear eF hFl
          go_wp2
          go_roundw
          case rel =>
            have hlen := HFL.out
            refine ⟨k + 1, F, by omega, by go_num, show _ = _ from hF.out.symm, ?_, ?_, hbq⟩
            · rw [hlen]
            · rw [hlen]; exact ho7
          case measure => simp [intOf]; omega
    · have hE2 : E = enc ss := by rw [hE.out, List.take_of_length_le (by omega)]
      subst hE2
      go_wp2
      go_ret
      exact ⟨rfl, ho, hb⟩
end Go.Proofs.Qxb6605282a.Ef
