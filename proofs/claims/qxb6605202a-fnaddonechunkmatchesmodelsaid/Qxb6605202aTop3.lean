import Derived.Test.Qxb6605202aTop0
namespace Go.Proofs.Qxb6605202a
open Go.RowKit

attribute [local go_sem ↓] Go.wp_at_zero Go.wp_at_succ

set_option maxHeartbeats 8000000 in
set_option maxRecDepth 100000 in
theorem top3_any (x0 x9 : Bool) (s1 s2 : ByteArray) (a3 a4 a5 a6 a7 a8 : Option Addr) (l3 c3 l4 c4 l5 c5 l6 c6 l7 c7 l8 c8 : Nat) (z3 : List Int) (t4 t5 t6 t7 t8 : List ByteArray) (i10 i11 : Int) (w : World)
    (h3 : IsInts .i64 w a3 l3 z3) (h4 : IsStrs w a4 l4 t4) (h5 : IsStrs w a5 l5 t5) (h6 : IsStrs w a6 l6 t6) (h7 : IsStrs w a7 l7 t7) (h8 : IsStrs w a8 l8 t8)
    (m3 : l3 ≤ maxLen) (m4 : l4 ≤ maxLen) (m5 : l5 ≤ maxLen) (m6 : l6 ≤ maxLen) (m7 : l7 ≤ maxLen) (m8 : l8 ≤ maxLen)
    (n3 : a3 = none → l3 = 0) (n4 : a4 = none → l4 = 0) (n5 : a5 = none → l5 = 0) (n6 : a6 = none → l6 = 0) (n7 : a7 = none → l7 = 0) (n8 : a8 = none → l8 = 0) :
    Calls Try.prog 3 #[.bool x0, .string s1, .string s2, .slice a3 l3 c3, .slice a4 l4 c4, .slice a5 l5 c5, .slice a6 l6 c6, .slice a7 l7 c7, .slice a8 l8 c8, .bool x9, .int .i64 i10, .int .i64 i11] w fun e w' => e = .returned (.bool true) ∧ Below w.heap.size w w' := by
  have q4 : l4 ≤ 9223372036854775807 := m4
  have q5 : l5 ≤ 9223372036854775807 := m5
  have q6 : l6 ≤ 9223372036854775807 := m6
  have q7 : l7 ≤ 9223372036854775807 := m7
  have q8 : l8 ≤ 9223372036854775807 := m8
  have q3 : l3 ≤ 9223372036854775807 := m3
  go_enter Try.func3, Try.ntmps3
  go_wp2_with fail
  refine (bytes5_any x0 x9 s1 s2 a3 l3 c3 a4 a5 a6 a7 a8 l4 c4 l5 c5 l6 c6 l7 c7 l8 c8 t4 t5 t6 t7 t8 i10 i11 w h4 h5 h6 h7 h8 q4 q5 q6 q7 q8).mono ?_
  rintro e w1 ⟨b, rfl, hw1⟩
  subst hw1
  cases b with
  | false =>
    go_wp2_with fail
    go_ret
    exact ⟨rfl, Below.refl _ _⟩
  | true =>
    go_wp2_with fail
    any_goals (go_ret; exact ⟨rfl, Below.refl _ _⟩)
    have g3 : l3 ≤ 4096 := by omega
    have g4 : l4 ≤ 4096 := by omega
    have g5 : l5 ≤ 4096 := by omega
    have g6 : l6 ≤ 4096 := by omega
    have g7 : l7 ≤ 4096 := by omega
    have g8 : l8 ≤ 65536 := by omega
    have k1 : s1.size ≤ 1048576 := by omega
    have k2 : s2.size ≤ 1048576 := by omega
    clear m3 m4 m5 m6 m7 m8 q3 q4 q5 q6 q7 q8
    refine (strBytes_any a4 l4 c4 t4 _ h4 (by omega)).mono ?_
    rintro e w' ⟨x4, rfl, hw, p4, y4, _⟩
    subst hw
    go_wp2_with fail
    refine (strBytes_any a5 l5 c5 t5 _ h5 (by omega)).mono ?_
    rintro e w' ⟨x5, rfl, hw, p5, y5, _⟩
    subst hw
    go_wp2_with fail
    refine (strBytes_any a6 l6 c6 t6 _ h6 (by omega)).mono ?_
    rintro e w' ⟨x6, rfl, hw, p6, y6, _⟩
    subst hw
    go_wp2_with fail
    refine (strBytes_any a7 l7 c7 t7 _ h7 (by omega)).mono ?_
    rintro e w' ⟨x7, rfl, hw, p7, y7, z7⟩
    subst hw
    go_wp2_with fail
    refine (strBytes_any a8 l8 c8 t8 _ h8 (by omega)).mono ?_
    rintro e w' ⟨x8, rfl, hw, p8, y8, _⟩
    subst hw
    have HZ := hideC z7
    clear z7
    go_wp2_with fail
    any_goals (go_ret; exact ⟨rfl, Below.refl _ _⟩)
    have e7 : l3 = l7 := by
      have h : ((l7 : Int) != (l3 : Int)) = false := by assumption
      simp at h
      omega
    have e4 : l3 = l4 := by omega
    have e5 : l3 = l5 := by omega
    have e6 : l3 = l6 := by omega
    have tt : tot t7 ≤ 1048576 := HZ.out (by omega)
    subst e4 e5 e6 e7
    clear HZ p4 p5 p6 p7 p8 y4 y5 y6 y7 y8
    have ET : ∀ k, (catOf k (fr z3 t4 t5 t6 t7 l3)).length ≤ 1099511627776 := fun k => cat_bound h7.len_eq tt k
    have HT := hideC ET
    clear ET tt
    refine (clonei_any a3 l3 c3 z3 _ h3 (by omega) n3).mono ?_
    rintro e u3 ⟨a3', rfl, m3, h3', b3⟩
    replace h4 := h4.below b3; replace h5 := h5.below b3; replace h6 := h6.below b3; replace h7 := h7.below b3; replace h8 := h8.below b3
    go_wp2_with fail
    refine (clone_any a4 l3 c4 t4 _ h4 (by omega) n4).mono ?_
    rintro e u4 ⟨a4', rfl, m4, h4', b4⟩
    replace h3' := h3'.below b4; replace h5 := h5.below b4; replace h6 := h6.below b4; replace h7 := h7.below b4; replace h8 := h8.below b4
    replace b3 := b3.trans (b4.mono b3.size)
    go_wp2_with fail
    refine (clone_any a5 l3 c5 t5 _ h5 (by omega) n5).mono ?_
    rintro e u5 ⟨a5', rfl, m5, h5', b5⟩
    replace h3' := h3'.below b5; replace h4' := h4'.below b5; replace h6 := h6.below b5; replace h7 := h7.below b5; replace h8 := h8.below b5
    replace b3 := b3.trans (b5.mono b3.size)
    go_wp2_with fail
    refine (clone_any a6 l3 c6 t6 _ h6 (by omega) n6).mono ?_
    rintro e u6 ⟨a6', rfl, m6, h6', b6⟩
    replace h3' := h3'.below b6; replace h4' := h4'.below b6; replace h5' := h5'.below b6; replace h7 := h7.below b6; replace h8 := h8.below b6
    replace b3 := b3.trans (b6.mono b3.size)
    go_wp2_with fail
    refine (clone_any a7 l3 c7 t7 _ h7 (by omega) n7).mono ?_
    rintro e u7 ⟨a7', rfl, m7, h7', b7⟩
    replace h3' := h3'.below b7; replace h4' := h4'.below b7; replace h5' := h5'.below b7; replace h6' := h6'.below b7; replace h8 := h8.below b7
    replace b3 := b3.trans (b7.mono b3.size)
    go_wp2_with fail
    refine (clone_any a8 l8 c8 t8 _ h8 (by omega) n8).mono ?_
    rintro e u8 ⟨a8', rfl, m8, h8', b8⟩
    replace h3' := h3'.below b8; replace h4' := h4'.below b8; replace h5' := h5'.below b8; replace h6' := h6'.below b8; replace h7' := h7'.below b8
    replace b3 := b3.trans (b8.mono b3.size)
    clear b4 b5 b6 b7 b8 h3 h4 h5 h6 h7 h8 n3 n4 n5 n6 n7 n8
    go_wp2_with fail
    refine (new_any u8).mono ?_
    rintro e u9 ⟨rfl, hw⟩
    subst hw
    have HH := Has.new u8
    cases x0 with
    | true =>
      go_wp2_with fail
      refine (HH.add s1 s2 a3' a4' a5' a6' a7' a8' l3 l8 l3 l3 l3 l3 l3 l8 z3 t4 t5 t6 t7 t8 (fr z3 t4 t5 t6 t7 l3) (fr z3 t4 t5 t6 t7 l3) x9 i10 i11 h3' h4' h5' h6' h7' h8' (by omega) g8 fr_length (fun j hj => fr_at hj) (by simp; omega) rfl (by rw [fr_length]; omega) HT.out).mono ?_
      rintro e u10 ⟨rfl, HA⟩
      rw [List.nil_append, set1_E] at HA
      go_wp2_with fail
      refine (HA.same z3 t4 t5 t6 t7 l3 a3' a4' a5' a6' a7' l3 l3 l3 l3 l3 x9 i10 i11 rfl (by cases x9 <;> rfl) h3' h4' h5' h6' h7' (by omega) HT.out).mono ?_
      rintro e u11 ⟨rfl, HB⟩
      go_wp2_with fail
      go_ret
      exact ⟨rfl, b3.trans (HB.1.mono b3.size)⟩
    | false =>
      go_wp2_with fail
      refine (HH.addNo s1 s2 _ _ _ _ _ _ x9 i10 i11).mono ?_
      rintro e u10 ⟨rfl, HA⟩
      go_wp2_with fail
      refine (Has.same (text := E) HA [] [] [] [] [] 0 none none none none none 0 0 0 0 0 x9 i10 i11 rfl (by cases x9 <;> rfl) (IsInts.nil _ _ _) (IsStrs.nil _ _) (IsStrs.nil _ _) (IsStrs.nil _ _) (IsStrs.nil _ _) (by omega) (fun k => by simp [fr, catOf])).mono ?_
      rintro e u11 ⟨rfl, HB⟩
      go_wp2_with fail
      go_ret
      exact ⟨rfl, b3.trans (HB.1.mono b3.size)⟩
end Go.Proofs.Qxb6605202a
