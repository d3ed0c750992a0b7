import Derived.Test.Qxb6601574aW4
namespace Go.Proofs.Qxb6601574a
open Go.RowKit Go.WideMaps Go.Maps

theorem longTo_never (num : ByteArray) : ∀ n, longTo (fun _ => false) num n = false
  | 0 => rfl
  | n + 1 => by rw [longTo, longTo_never num n]; rfl

theorem long_not (x : Bool) (ss : List ByteArray) (num : ByteArray) : longTo (fun s => !x && mem ss s) num (min num.size 15) = (!x && covered ss num) := by
  cases x with
  | true => exact longTo_never num _
  | false => exact long_covered ss num

set_option maxHeartbeats 800000 in
theorem top_any (rule cli called : ByteArray) (a3 a5 : Option Addr) (l3 c3 l5 c5 : Nat) (s3 s5 : List ByteArray) (x4 x6 : Bool) (w : World) (h3 : IsStrs w a3 l3 s3) (h5 : IsStrs w a5 l5 s5) (hl3 : l3 ≤ maxLen) (hl5 : l5 ≤ maxLen)
    (n3 : a3 = none → l3 = 0) (n5 : a5 = none → l5 = 0) (hcli : cli.size ≤ maxLen) (hcalled : called.size ≤ maxLen) :
    Calls Try.prog 3 #[.string rule, .string cli, .string called, .slice a3 l3 c3, .bool x4, .slice a5 l5 c5, .bool x6] w fun e w' => e = .returned (.bool true) ∧ Below w.heap.size w w' := by
  go_enter Try.func3, Try.ntmps3
  go_wp2_with fail
  refine (bytes_any rule cli called a3 a5 l3 c3 l5 c5 s3 s5 x4 x6 w h3 h5 hl3 hl5).mono ?_
  rintro e w' ⟨x, rfl, rfl⟩
  cases x with
  | false =>
    go_wp2_with fail
    go_ret
    exact ⟨rfl, Below.refl _ _⟩
  | true =>
    go_wp2_with fail
    refine (tooBig_any rule cli called a3 a5 l3 c3 l5 c5 s3 s5 w' h3 h5 hl3 hl5).mono ?_
    rintro e w ⟨x, rfl, rfl, hx⟩
    cases x with
    | true =>
      go_wp2_with fail
      go_ret
      exact ⟨rfl, Below.refl _ _⟩
    | false =>
      obtain ⟨g3, g5⟩ := hx rfl
      clear hx
      go_wp2_with fail
      refine (clone_any a3 l3 c3 s3 w h3 g3 n3).mono ?_
      rintro e w1 ⟨a3', c3', rfl, h3', hb1⟩
      go_wp2_with fail
      refine (clone_any a5 l5 c5 s5 w1 (h5.below hb1) g5 n5).mono ?_
      rintro e w2 ⟨a5', c5', rfl, h5', hb2⟩
      go_wp2_with fail
      refine (set_any a3' l3 c3' s3 x4 w2 (h3'.below hb2) g3).mono ?_
      rintro e w3 ⟨mN, rfl, hN, hb3⟩
      go_wp2_with fail
      refine (set_any a5' l5 c5' s5 x6 w3 (h5'.below hb3) g5).mono ?_
      rintro e w4 ⟨mA, rfl, hA, hb4⟩
      have hN4 := hN.below hb4
      have h34 := ((h3'.below hb2).below hb3).below hb4
      have h54 := (h5'.below hb3).below hb4
      have hbw : Below w.heap.size w w4 := hb1.trans ((hb2.mono hb1.size).trans ((hb3.mono (Nat.le_trans hb1.size hb2.size)).trans (hb4.mono (Nat.le_trans hb1.size (Nat.le_trans hb2.size hb3.size)))))
      clear hb1 hb2 hb3 hb4 h3' h5' h3 h5 hN n3 n5 hl3 hl5
      go_wp2_with fail
      have hal : Below w4.heap.size w4 (w4.alloc (.cells #[.map mN, .map mA] 30)) := (Below.refl _ _).alloc (Nat.le_refl _) _
      refine (apply_any mN mA _ _ rule cli called _ (hN4.below hal) (hA.below hal) hcli hcalled).mono ?_
      rintro e w5 ⟨rfl, hb5⟩
      have hb45 : Below w4.heap.size w4 w5 := hal.trans (hb5.mono hal.size)
      go_wp2_with fail
      refine (model_any rule cli called a3' a5' l3 c3' l5 c5' s3 s5 x4 x6 _ (h34.below hb45) (h54.below hb45) g3 g5 hcalled).mono ?_
      rintro e w6 ⟨rfl, hb6⟩
      have ec := long_not x4 s3 called
      go_wp2_with fail
      go_ret
      exact ⟨rfl, (hbw.trans (hb45.mono hbw.size)).trans (hb6.mono (Nat.le_trans hbw.size hb45.size))⟩
end Go.Proofs.Qxb6601574a
