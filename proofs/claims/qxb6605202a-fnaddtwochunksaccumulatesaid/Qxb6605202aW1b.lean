import Derived.Test.Qxb6605202aW1
namespace Go.Proofs.Qxb6605202a
open Go.RowKit

set_option maxHeartbeats 2000000 in
set_option maxRecDepth 100000 in
theorem bytes5_any (x0 x9 : Bool) (s1 s2 : ByteArray) (a3 : Option Addr) (l3 c3 : Nat) (a4 a5 a6 a7 a8 : Option Addr) (l4 c4 l5 c5 l6 c6 l7 c7 l8 c8 : Nat) (t4 t5 t6 t7 t8 : List ByteArray) (i10 i11 : Int) (w : World) (h4 : IsStrs w a4 l4 t4) (h5 : IsStrs w a5 l5 t5) (h6 : IsStrs w a6 l6 t6) (h7 : IsStrs w a7 l7 t7) (h8 : IsStrs w a8 l8 t8)
    (_m4 : l4 ≤ 9223372036854775807) (_m5 : l5 ≤ 9223372036854775807) (_m6 : l6 ≤ 9223372036854775807) (_m7 : l7 ≤ 9223372036854775807) (_m8 : l8 ≤ 9223372036854775807) :
    Calls Try.prog 5 #[.bool x0, .string s1, .string s2, .slice a3 l3 c3, .slice a4 l4 c4, .slice a5 l5 c5, .slice a6 l6 c6, .slice a7 l7 c7, .slice a8 l8 c8, .bool x9, .int .i64 i10, .int .i64 i11] w fun e w' => SomeBool w e w' := by
  go_enter Try.func5, Try.ntmps5
  go_wp2
  any_goals (go_ret; exact ⟨_, rfl, rfl⟩)
  go_loop [25, 26] (fun t i => ∃ k : Nat, ∃ n : Int, k ≤ l4 ∧ i = .int .i64 k ∧ t = .int .i64 n) (fun _ i => l4 - (intOf i).toNat)
  case atStart => exact ⟨0, _, Nat.zero_le _, rfl, rfl⟩
  case round =>
    obtain ⟨k, n, hk, rfl, rfl⟩ := hrel
    by_cases hlt : k < l4
    case pos =>
      obtain ⟨b, off, ha, hbl, hc⟩ := h4.at_ (by omega)
      have hix := fun W => index_run (P := Try.prog) Try.underlying23 size9 ha c4 k hlt W
      have hck := hc k hlt
      clear hc hbl ha
      go_wp2
      any_goals (go_ret; exact ⟨_, rfl, rfl⟩)
      go_round
      case rel => exact ⟨k + 1, _, by omega, by go_num, rfl⟩
      case measure => simp [intOf]; omega
    go_wp2
    any_goals (go_ret; exact ⟨_, rfl, rfl⟩)
    go_loop [25, 27] (fun t i => ∃ k : Nat, ∃ n : Int, k ≤ l5 ∧ i = .int .i64 k ∧ t = .int .i64 n) (fun _ i => l5 - (intOf i).toNat)
    case atStart => exact ⟨0, _, Nat.zero_le _, rfl, rfl⟩
    case round =>
      obtain ⟨k, n, hk, rfl, rfl⟩ := hrel
      by_cases hlt : k < l5
      case pos =>
        obtain ⟨b, off, ha, hbl, hc⟩ := h5.at_ (by omega)
        have hix := fun W => index_run (P := Try.prog) Try.underlying23 size9 ha c5 k hlt W
        have hck := hc k hlt
        clear hc hbl ha
        go_wp2
        any_goals (go_ret; exact ⟨_, rfl, rfl⟩)
        go_round
        case rel => exact ⟨k + 1, _, by omega, by go_num, rfl⟩
        case measure => simp [intOf]; omega
      go_wp2
      any_goals (go_ret; exact ⟨_, rfl, rfl⟩)
      go_loop [25, 28] (fun t i => ∃ k : Nat, ∃ n : Int, k ≤ l6 ∧ i = .int .i64 k ∧ t = .int .i64 n) (fun _ i => l6 - (intOf i).toNat)
      case atStart => exact ⟨0, _, Nat.zero_le _, rfl, rfl⟩
      case round =>
        obtain ⟨k, n, hk, rfl, rfl⟩ := hrel
        by_cases hlt : k < l6
        case pos =>
          obtain ⟨b, off, ha, hbl, hc⟩ := h6.at_ (by omega)
          have hix := fun W => index_run (P := Try.prog) Try.underlying23 size9 ha c6 k hlt W
          have hck := hc k hlt
          clear hc hbl ha
          go_wp2
          any_goals (go_ret; exact ⟨_, rfl, rfl⟩)
          go_round
          case rel => exact ⟨k + 1, _, by omega, by go_num, rfl⟩
          case measure => simp [intOf]; omega
        go_wp2
        any_goals (go_ret; exact ⟨_, rfl, rfl⟩)
        go_loop [25, 29] (fun t i => ∃ k : Nat, ∃ n : Int, k ≤ l7 ∧ i = .int .i64 k ∧ t = .int .i64 n) (fun _ i => l7 - (intOf i).toNat)
        case atStart => exact ⟨0, _, Nat.zero_le _, rfl, rfl⟩
        case round =>
          obtain ⟨k, n, hk, rfl, rfl⟩ := hrel
          by_cases hlt : k < l7
          case pos =>
            obtain ⟨b, off, ha, hbl, hc⟩ := h7.at_ (by omega)
            have hix := fun W => index_run (P := Try.prog) Try.underlying23 size9 ha c7 k hlt W
            have hck := hc k hlt
            clear hc hbl ha
            go_wp2
            any_goals (go_ret; exact ⟨_, rfl, rfl⟩)
            go_round
            case rel => exact ⟨k + 1, _, by omega, by go_num, rfl⟩
            case measure => simp [intOf]; omega
          go_wp2
          any_goals (go_ret; exact ⟨_, rfl, rfl⟩)
          go_loop [25, 30] (fun t i => ∃ k : Nat, ∃ n : Int, k ≤ l8 ∧ i = .int .i64 k ∧ t = .int .i64 n) (fun _ i => l8 - (intOf i).toNat)
          case atStart => exact ⟨0, _, Nat.zero_le _, rfl, rfl⟩
          case round =>
            obtain ⟨k, n, hk, rfl, rfl⟩ := hrel
            by_cases hlt : k < l8
            case pos =>
              obtain ⟨b, off, ha, hbl, hc⟩ := h8.at_ (by omega)
              have hix := fun W => index_run (P := Try.prog) Try.underlying23 size9 ha c8 k hlt W
              have hck := hc k hlt
              clear hc hbl ha
              go_wp2
              any_goals (go_ret; exact ⟨_, rfl, rfl⟩)
              go_round
              case rel => exact ⟨k + 1, _, by omega, by go_num, rfl⟩
              case measure => simp [intOf]; omega
            go_wp2
            any_goals (go_ret; exact ⟨_, rfl, rfl⟩)

set_option maxHeartbeats 2000000 in
set_option maxRecDepth 100000 in
theorem bytes12_any (s0 s1 s2 s3 : ByteArray) (a4 : Option Addr) (l4 c4 : Nat) (a5 a6 a7 a8 : Option Addr) (l5 c5 l6 c6 l7 c7 l8 c8 : Nat) (t5 t6 t7 t8 : List ByteArray) (i9 i10 i11 : Int) (w : World) (h5 : IsStrs w a5 l5 t5) (h6 : IsStrs w a6 l6 t6) (h7 : IsStrs w a7 l7 t7) (h8 : IsStrs w a8 l8 t8)
    (_m5 : l5 ≤ 9223372036854775807) (_m6 : l6 ≤ 9223372036854775807) (_m7 : l7 ≤ 9223372036854775807) (_m8 : l8 ≤ 9223372036854775807) :
    Calls Try.prog 12 #[.string s0, .string s1, .string s2, .string s3, .slice a4 l4 c4, .slice a5 l5 c5, .slice a6 l6 c6, .slice a7 l7 c7, .slice a8 l8 c8, .int .i64 i9, .int .i64 i10, .int .i64 i11] w fun e w' => SomeBool w e w' := by
  go_enter Try.func12, Try.ntmps12
  go_wp2
  any_goals (go_ret; exact ⟨_, rfl, rfl⟩)
  go_loop [25, 26] (fun t i => ∃ k : Nat, ∃ n : Int, k ≤ l5 ∧ i = .int .i64 k ∧ t = .int .i64 n) (fun _ i => l5 - (intOf i).toNat)
  case atStart => exact ⟨0, _, Nat.zero_le _, rfl, rfl⟩
  case round =>
    obtain ⟨k, n, hk, rfl, rfl⟩ := hrel
    by_cases hlt : k < l5
    case pos =>
      obtain ⟨b, off, ha, hbl, hc⟩ := h5.at_ (by omega)
      have hix := fun W => index_run (P := Try.prog) Try.underlying23 size9 ha c5 k hlt W
      have hck := hc k hlt
      clear hc hbl ha
      go_wp2
      any_goals (go_ret; exact ⟨_, rfl, rfl⟩)
      go_round
      case rel => exact ⟨k + 1, _, by omega, by go_num, rfl⟩
      case measure => simp [intOf]; omega
    go_wp2
    any_goals (go_ret; exact ⟨_, rfl, rfl⟩)
    go_loop [25, 27] (fun t i => ∃ k : Nat, ∃ n : Int, k ≤ l6 ∧ i = .int .i64 k ∧ t = .int .i64 n) (fun _ i => l6 - (intOf i).toNat)
    case atStart => exact ⟨0, _, Nat.zero_le _, rfl, rfl⟩
    case round =>
      obtain ⟨k, n, hk, rfl, rfl⟩ := hrel
      by_cases hlt : k < l6
      case pos =>
        obtain ⟨b, off, ha, hbl, hc⟩ := h6.at_ (by omega)
        have hix := fun W => index_run (P := Try.prog) Try.underlying23 size9 ha c6 k hlt W
        have hck := hc k hlt
        clear hc hbl ha
        go_wp2
        any_goals (go_ret; exact ⟨_, rfl, rfl⟩)
        go_round
        case rel => exact ⟨k + 1, _, by omega, by go_num, rfl⟩
        case measure => simp [intOf]; omega
      go_wp2
      any_goals (go_ret; exact ⟨_, rfl, rfl⟩)
      go_loop [25, 28] (fun t i => ∃ k : Nat, ∃ n : Int, k ≤ l7 ∧ i = .int .i64 k ∧ t = .int .i64 n) (fun _ i => l7 - (intOf i).toNat)
      case atStart => exact ⟨0, _, Nat.zero_le _, rfl, rfl⟩
      case round =>
        obtain ⟨k, n, hk, rfl, rfl⟩ := hrel
        by_cases hlt : k < l7
        case pos =>
          obtain ⟨b, off, ha, hbl, hc⟩ := h7.at_ (by omega)
          have hix := fun W => index_run (P := Try.prog) Try.underlying23 size9 ha c7 k hlt W
          have hck := hc k hlt
          clear hc hbl ha
          go_wp2
          any_goals (go_ret; exact ⟨_, rfl, rfl⟩)
          go_round
          case rel => exact ⟨k + 1, _, by omega, by go_num, rfl⟩
          case measure => simp [intOf]; omega
        go_wp2
        any_goals (go_ret; exact ⟨_, rfl, rfl⟩)
        go_loop [25, 29] (fun t i => ∃ k : Nat, ∃ n : Int, k ≤ l8 ∧ i = .int .i64 k ∧ t = .int .i64 n) (fun _ i => l8 - (intOf i).toNat)
        case atStart => exact ⟨0, _, Nat.zero_le _, rfl, rfl⟩
        case round =>
          obtain ⟨k, n, hk, rfl, rfl⟩ := hrel
          by_cases hlt : k < l8
          case pos =>
            obtain ⟨b, off, ha, hbl, hc⟩ := h8.at_ (by omega)
            have hix := fun W => index_run (P := Try.prog) Try.underlying23 size9 ha c8 k hlt W
            have hck := hc k hlt
            clear hc hbl ha
            go_wp2
            any_goals (go_ret; exact ⟨_, rfl, rfl⟩)
            go_round
            case rel => exact ⟨k + 1, _, by omega, by go_num, rfl⟩
            case measure => simp [intOf]; omega
          go_wp2
          any_goals (go_ret; exact ⟨_, rfl, rfl⟩)

end Go.Proofs.Qxb6605202a
