import Derived.Test.Qxb6605202aCut
namespace Go.Proofs.Qxb6605202a
open Go.RowKit

attribute [local go_sem ↓] Go.wp_at_zero Go.wp_at_succ

theorem cat_data (x y : ByteArray) : x.data.toList ++ y.data.toList = (x ++ y).data.toList := by
  simp

set_option maxHeartbeats 16000000 in
set_option maxRecDepth 100000 in
theorem top4_any (s0 s1 s2 s3 : ByteArray) (a4 a5 a6 a7 a8 : Option Addr) (l4 c4 l5 c5 l6 c6 l7 c7 l8 c8 : Nat) (z4 : List Int) (t5 t6 t7 t8 : List ByteArray) (i9 i10 i11 : Int) (w : World)
    (h4 : IsInts .i64 w a4 l4 z4) (h5 : IsStrs w a5 l5 t5) (h6 : IsStrs w a6 l6 t6) (h7 : IsStrs w a7 l7 t7) (h8 : IsStrs w a8 l8 t8)
    (m4 : l4 ≤ maxLen) (m5 : l5 ≤ maxLen) (m6 : l6 ≤ maxLen) (m7 : l7 ≤ maxLen) (m8 : l8 ≤ maxLen)
    (n4 : a4 = none → l4 = 0) (n5 : a5 = none → l5 = 0) (n6 : a6 = none → l6 = 0) (n7 : a7 = none → l7 = 0) (n8 : a8 = none → l8 = 0) :
    Calls Try.prog 4 #[.string s0, .string s1, .string s2, .string s3, .slice a4 l4 c4, .slice a5 l5 c5, .slice a6 l6 c6, .slice a7 l7 c7, .slice a8 l8 c8, .int .i64 i9, .int .i64 i10, .int .i64 i11] w fun e w' => e = .returned (.bool true) ∧ Below w.heap.size w w' := by
  have q4 : l4 ≤ 9223372036854775807 := m4
  have q5 : l5 ≤ 9223372036854775807 := m5
  have q6 : l6 ≤ 9223372036854775807 := m6
  have q7 : l7 ≤ 9223372036854775807 := m7
  have q8 : l8 ≤ 9223372036854775807 := m8
  go_enter Try.func4, Try.ntmps4
  go_wp2_with fail
  refine (bytes12_any s0 s1 s2 s3 a4 l4 c4 a5 a6 a7 a8 l5 c5 l6 c6 l7 c7 l8 c8 t5 t6 t7 t8 i9 i10 i11 w h5 h6 h7 h8 q5 q6 q7 q8).mono ?_
  rintro e w1 ⟨b, rfl, hw1⟩
  subst hw1
  cases b with
  | false =>
    go_wp2_with fail
    go_ret
    exact ⟨rfl, Below.refl _ _⟩
  | true =>
    go_wp2_with fail
    any_goals (go_ret; exact ⟨rfl, Below.refl _ _⟩)
    have g4 : l4 ≤ 4096 := by omega
    have g5 : l5 ≤ 4096 := by omega
    have g6 : l6 ≤ 4096 := by omega
    have g7 : l7 ≤ 4096 := by omega
    have g8 : l8 ≤ 4096 := by omega
    have k0 : s0.size ≤ 1048576 := by omega
    have k1 : s1.size ≤ 1048576 := by omega
    have k2 : s2.size ≤ 1048576 := by omega
    have k3 : s3.size ≤ 1048576 := by omega
    clear m4 m5 m6 m7 m8 q4 q5 q6 q7 q8
    refine (strBytes_any a5 l5 c5 t5 _ h5 (by omega)).mono ?_
    rintro e w' ⟨x5, rfl, hw, p5, y5, _⟩
    subst hw
    go_wp2_with fail
    refine (strBytes_any a6 l6 c6 t6 _ h6 (by omega)).mono ?_
    rintro e w' ⟨x6, rfl, hw, p6, y6, _⟩
    subst hw
    go_wp2_with fail
    refine (strBytes_any a7 l7 c7 t7 _ h7 (by omega)).mono ?_
    rintro e w' ⟨x7, rfl, hw, p7, y7, _⟩
    subst hw
    go_wp2_with fail
    refine (strBytes_any a8 l8 c8 t8 _ h8 (by omega)).mono ?_
    rintro e w' ⟨x8, rfl, hw, p8, y8, z8⟩
    subst hw
    have HZ := hideC z8
    clear z8
    go_wp2_with fail
    any_goals (go_ret; exact ⟨rfl, Below.refl _ _⟩)
    have e8 : l4 = l8 := by
      have h : ((l8 : Int) != (l4 : Int)) = false := by assumption
      simp at h
      omega
    have e5 : l4 = l5 := by omega
    have e6 : l4 = l6 := by omega
    have e7 : l4 = l7 := by omega
    have i90 : 0 ≤ i9 := by assumption
    have i91 : i9 ≤ l4 := by omega
    have tt : tot t8 ≤ 1048576 := HZ.out (by omega)
    obtain ⟨cut, rfl⟩ : ∃ k : Nat, i9 = k := ⟨i9.toNat, by omega⟩
    have hcut : cut ≤ l4 := by omega
    subst e5 e6 e7 e8
    clear HZ p5 p6 p7 p8 y5 y6 y7 y8
    have ET : ∀ k, (catOf k (fr z4 t5 t6 t7 t8 l4)).length ≤ 1099511627776 := fun k => cat_bound h8.len_eq tt k
    have HT := hideC ET
    clear ET tt
    refine (clonei_any a4 l4 c4 z4 _ h4 (by omega) n4).mono ?_
    rintro e u4 ⟨a4', rfl, _, h4', b4⟩
    replace h5 := h5.below b4
    replace h6 := h6.below b4
    replace h7 := h7.below b4
    replace h8 := h8.below b4
    go_wp2_with fail
    refine (clone_any a5 l4 c5 t5 _ h5 (by omega) n5).mono ?_
    rintro e u5 ⟨a5', rfl, _, h5', b5⟩
    replace h4' := h4'.below b5
    replace h6 := h6.below b5
    replace h7 := h7.below b5
    replace h8 := h8.below b5
    replace b4 := b4.trans (b5.mono b4.size)
    go_wp2_with fail
    refine (clone_any a6 l4 c6 t6 _ h6 (by omega) n6).mono ?_
    rintro e u6 ⟨a6', rfl, _, h6', b6⟩
    replace h4' := h4'.below b6
    replace h5' := h5'.below b6
    replace h7 := h7.below b6
    replace h8 := h8.below b6
    replace b4 := b4.trans (b6.mono b4.size)
    go_wp2_with fail
    refine (clone_any a7 l4 c7 t7 _ h7 (by omega) n7).mono ?_
    rintro e u7 ⟨a7', rfl, _, h7', b7⟩
    replace h4' := h4'.below b7
    replace h5' := h5'.below b7
    replace h6' := h6'.below b7
    replace h8 := h8.below b7
    replace b4 := b4.trans (b7.mono b4.size)
    go_wp2_with fail
    refine (clone_any a8 l4 c8 t8 _ h8 (by omega) n8).mono ?_
    rintro e u8 ⟨a8', rfl, _, h8', b8⟩
    replace h4' := h4'.below b8
    replace h5' := h5'.below b8
    replace h6' := h6'.below b8
    replace h7' := h7'.below b8
    replace b4 := b4.trans (b8.mono b4.size)
    clear b5 b6 b7 b8 h4 h5 h6 h7 h8 n4 n5 n6 n7 n8
    go_wp2_with fail
    refine (new_any u8).mono ?_
    rintro e u9 ⟨rfl, hw⟩
    have HH := Has.new u8
    rw [← hw] at HH
    clear hw
    have HA := hideC (HH.drew.add s0 s1 a4' a5' a6' a7' a8' none cut 0 l4 l4 l4 l4 l4 0 (z4.take cut) (t5.take cut) (t6.take cut) (t7.take cut) (t8.take cut) [] ((fr z4 t5 t6 t7 t8 l4).take cut) ((fr z4 t5 t6 t7 t8 l4).take cut) false 0 0 (h4'.take hcut) (h5'.take hcut) (h6'.take hcut) (h7'.take hcut) (h8'.take hcut) (IsStrs.nil _ _) (by omega) (by omega) (by rw [List.length_take, fr_length]; omega) (fun j hj => by rw [← fr_cut hcut, fr_at hj]) (by simp; omega) rfl (by rw [List.length_take, fr_length]; omega) (cat_part HT.out cut))
    have r4 := fun W => run_to (P := Try.prog) Try.underlying22 size3 a4' hcut W
    have r5 := fun W => run_to (P := Try.prog) Try.underlying23 size9 a5' hcut W
    have r6 := fun W => run_to (P := Try.prog) Try.underlying23 size9 a6' hcut W
    have r7 := fun W => run_to (P := Try.prog) Try.underlying23 size9 a7' hcut W
    have r8 := fun W => run_to (P := Try.prog) Try.underlying23 size9 a8' hcut W
    have w4 := fun W => run_from (P := Try.prog) Try.underlying22 size3 a4' hcut W
    have w5 := fun W => run_from (P := Try.prog) Try.underlying23 size9 a5' hcut W
    have w6 := fun W => run_from (P := Try.prog) Try.underlying23 size9 a6' hcut W
    have w7 := fun W => run_from (P := Try.prog) Try.underlying23 size9 a7' hcut W
    have w8 := fun W => run_from (P := Try.prog) Try.underlying23 size9 a8' hcut W
    go_wp2
    go_region_with (go_at_call 10; refine HA.out.mono ?_; rintro e v1 ⟨rfl, HB⟩)
    clear HA r4 r5 r6 r7 r8 w4 w5 w6 w7 w8 HH
    rw [List.nil_append, set1_E] at HB
    have HA := hideC (HB.drew.same (z4.take cut) (t5.take cut) (t6.take cut) (t7.take cut) (t8.take cut) cut a4' a5' a6' a7' a8' l4 l4 l4 l4 l4 false 0 0 (fr_cut hcut).symm rfl (h4'.take hcut) (h5'.take hcut) (h6'.take hcut) (h7'.take hcut) (h8'.take hcut) (by omega) (fun k => by rw [fr_cut hcut]; exact cat_part HT.out cut k))
    have r4 := fun W => run_to (P := Try.prog) Try.underlying22 size3 a4' hcut W
    have r5 := fun W => run_to (P := Try.prog) Try.underlying23 size9 a5' hcut W
    have r6 := fun W => run_to (P := Try.prog) Try.underlying23 size9 a6' hcut W
    have r7 := fun W => run_to (P := Try.prog) Try.underlying23 size9 a7' hcut W
    have r8 := fun W => run_to (P := Try.prog) Try.underlying23 size9 a8' hcut W
    go_wp2
    go_region_with (go_at_call 11; refine HA.out.mono ?_; rintro e v2 ⟨rfl, HC⟩)
    clear HA HB r4 r5 r6 r7 r8
    have HA := hideC (HC.drew.add s2 s3 (hiA a4' l4 cut) (hiA a5' l4 cut) (hiA a6' l4 cut) (hiA a7' l4 cut) (hiA a8' l4 cut) none (l4 - cut) 0 (l4 - cut) (l4 - cut) (l4 - cut) (l4 - cut) (l4 - cut) 0 (z4.drop cut) (t5.drop cut) (t6.drop cut) (t7.drop cut) (t8.drop cut) [] ((fr z4 t5 t6 t7 t8 l4).drop cut) (fr z4 t5 t6 t7 t8 l4) true i10 i11 (h4'.drop hcut) (h5'.drop hcut) (h6'.drop hcut) (h7'.drop hcut) (h8'.drop hcut) (IsStrs.nil _ _) (by omega) (by omega) (by rw [List.length_drop, fr_length]) (fun j hj => fr_rest j hj) (by rw [Array.length_toList, show s0.data.size = s0.size from rfl]; omega) (List.take_append_drop _ _) (by rw [fr_length]; omega) HT.out)
    have r4 := fun W => run_from (P := Try.prog) Try.underlying22 size3 a4' hcut W
    have r5 := fun W => run_from (P := Try.prog) Try.underlying23 size9 a5' hcut W
    have r6 := fun W => run_from (P := Try.prog) Try.underlying23 size9 a6' hcut W
    have r7 := fun W => run_from (P := Try.prog) Try.underlying23 size9 a7' hcut W
    have r8 := fun W => run_from (P := Try.prog) Try.underlying23 size9 a8' hcut W
    go_wp2
    go_region_with (go_at_call 10; refine HA.out.mono ?_; rintro e v3 ⟨rfl, HD⟩)
    clear HA HC r4 r5 r6 r7 r8
    rw [cat_data] at HD
    cases hfe : s3.toList.isEmpty with
    | true =>
      rw [set1_yes hfe] at HD
      go_wp2_with fail
      refine (HD.same z4 t5 t6 t7 t8 l4 a4' a5' a6' a7' a8' l4 l4 l4 l4 l4 true i10 i11 rfl rfl h4' h5' h6' h7' h8' (by omega) HT.out).mono ?_
      rintro e u11 ⟨rfl, HE⟩
      go_wp2_with fail
      go_ret
      exact ⟨rfl, b4.trans (HE.1.mono b4.size)⟩
    | false =>
      rw [set1_no hfe] at HD
      go_wp2_with fail
      refine (HD.same z4 t5 t6 t7 t8 l4 a4' a5' a6' a7' a8' l4 l4 l4 l4 l4 true i10 i11 rfl rfl h4' h5' h6' h7' h8' (by omega) HT.out).mono ?_
      rintro e u11 ⟨rfl, HE⟩
      go_wp2_with fail
      go_ret
      exact ⟨rfl, b4.trans (HE.1.mono b4.size)⟩
end Go.Proofs.Qxb6605202a
