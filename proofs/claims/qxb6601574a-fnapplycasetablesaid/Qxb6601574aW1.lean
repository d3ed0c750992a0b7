import Derived.Test.Qxb6601574aProg
import Derived.Test.Qxb6601574aMem
import Derived.Deep.QuietTactic
import Derived.BigQuiet
namespace Go.Proofs.Qxb6601574a
open Go.RowKit

theorem size9 (w : World) : (sizeOf 9).run Try.prog w = .ok 1 w := by kernel_rfl

set_option maxHeartbeats 400000 in
theorem hasPrefix_any (s p : ByteArray) (w : World) (hs : s.size ≤ maxLen) (_hp : p.size ≤ maxLen) :
    Calls Try.prog 22 #[.string s, .string p] w fun e w' => e = .returned (.bool (pre s p)) ∧ Below w.heap.size w w' := by
  unfold maxLen at hs _hp
  by_cases hl : s.size < p.size
  · go_enter Try.func22, Try.ntmps22
    go_wp2
    go_ret
    exact ⟨ret_bool (pre_long hl).symm, Below.refl _ _⟩
  · go_enter Try.func22, Try.ntmps22
    go_wp2
    go_loopw [5] (fun i wr => ∃ k : Nat, k ≤ p.size ∧ i = .int .i64 k ∧ Below w.heap.size w wr ∧ Hid (∀ j, j < k → s.data.toList[j]? = p.data.toList[j]?)) (fun i _ => p.size - (intOf i).toNat)
    case atStart => exact ⟨0, Nat.zero_le _, rfl, Below.refl _ _, fun j hj => absurd hj (by omega)⟩
    case round =>
      obtain ⟨k, hk, rfl, hb, hall⟩ := hrel
      by_cases hlt : k < p.size
      · have h1 : (k : Int) < (p.size : Int) := by omega
        have h2 : (k : Int) < (s.size : Int) := by omega
        have h3 : k < s.size := by omega
        go_wp2
        go_quiet (fail)
        go_wp2
        · go_ret
          exact ⟨ret_bool (pre_not hlt (bytes_ne h3 hlt (by assumption))).symm, below_drewN hb _⟩
        · go_roundw
          case rel => 
            have he := bytes_eq h3 hlt (by assumption)
            exact ⟨k + 1, by omega, by go_num, below_drewN hb _, fun j hj => if h : j = k then h ▸ he else hall j (by omega)⟩
          case measure => simp [intOf]; omega
      · go_wp2
        go_ret
        exact ⟨ret_bool (pre_all (fun j hj => hall j (by omega))).symm, hb⟩

set_option maxHeartbeats 400000 in
theorem member_any (a : Option Addr) (len cap : Nat) (ss : List ByteArray) (s : ByteArray) (w : World) (hS : IsStrs w a len ss) (_hlen : len ≤ 65536) :
    Calls Try.prog 23 #[.slice a len cap, .bool false, .string s] w fun e w' => e = .returned (.bool (mem ss s)) ∧ w' = w := by
  have hl := hS.len_eq
  have HL : Hid (ss.length = len) := hl
  clear hl
  go_enter Try.func23, Try.ntmps23
  go_wp2
  go_loop [7] (fun i => ∃ k : Nat, k ≤ len ∧ i = .int .i64 k ∧ Hid ((ss.take k).any (fun x => x.toList == s.toList) = false)) (fun i => len - (intOf i).toNat)
  case atStart => exact ⟨0, Nat.zero_le _, rfl, by simp [Hid]⟩
  case round =>
    obtain ⟨k, hk, rfl, hno⟩ := hrel
    by_cases hlt : k < len
    · obtain ⟨b, off, ha, hbl, hc⟩ := hS.at_ (by omega)
      have hix := fun W => index_run (P := Try.prog) Try.underlying22 size9 ha cap k hlt W
      obtain ⟨key, hkey⟩ : ∃ key, key = ss.getD k ByteArray.empty := ⟨_, rfl⟩
      have hck : w.cell? ⟨b, off + k, none⟩ = some (.string key) := by rw [hkey]; exact hc k hlt
      have HK : Hid (key = ss.getD k ByteArray.empty) := hkey
      clear hc hbl ha hkey
      go_wp2
      · have ht : (key.toList == s.toList) = true := by assumption
        go_ret
        exact ⟨ret_bool (any_hit (k := k) (by rw [HL.out]; exact hlt) (by rw [← HK.out]; exact ht)).symm, rfl⟩
      · have ht : (key.toList == s.toList) = false := by assumption
        go_round
        case rel => exact ⟨k + 1, by omega, by go_num, any_snoc (by rw [HL.out]; exact hlt) hno.out (by rw [← HK.out]; exact ht)⟩
        case measure => simp [intOf]; omega
    · go_wp2
      go_ret
      exact ⟨ret_bool (any_end (by rw [HL.out]; omega) hno.out).symm, rfl⟩

theorem member_nil (v : Value) (s : ByteArray) (w : World) :
    Calls Try.prog 23 #[v, .bool true, .string s] w fun e w' => e = .returned (.bool false) ∧ w' = w := by
  go_enter Try.func23, Try.ntmps23
  go_wp2
  go_ret
  exact ⟨rfl, rfl⟩

theorem covered_nil (v : Value) (s : ByteArray) (w : World) :
    Calls Try.prog 21 #[v, .bool true, .string s] w fun e w' => e = .returned (.bool false) ∧ w' = w := by
  go_enter Try.func21, Try.ntmps21
  go_wp2
  go_ret
  exact ⟨rfl, rfl⟩

set_option maxHeartbeats 400000 in
theorem covered_any (a : Option Addr) (len cap : Nat) (ss : List ByteArray) (num : ByteArray) (w : World) (hS : IsStrs w a len ss) (_hlen : len ≤ 65536) (hnum : num.size ≤ maxLen) :
    Calls Try.prog 21 #[.slice a len cap, .bool false, .string num] w fun e w' => e = .returned (.bool (covered ss num)) ∧ Below w.heap.size w w' := by
  have hl := hS.len_eq
  have HL : Hid (ss.length = len) := hl
  clear hl
  go_enter Try.func21, Try.ntmps21
  go_wp2
  go_loopw [7] (fun i wr => ∃ k : Nat, k ≤ len ∧ i = .int .i64 k ∧ Hid ((ss.take k).any (fits num) = false) ∧ Below w.heap.size w wr) (fun i _ => len - (intOf i).toNat)
  case atStart => exact ⟨0, Nat.zero_le _, rfl, by simp [Hid], Below.refl _ _⟩
  case round =>
    obtain ⟨k, hk, rfl, hno, hb⟩ := hrel
    by_cases hlt : k < len
    · obtain ⟨b, off, ha, hbl, hc⟩ := (hS.below hb).at_ (by omega)
      have hix := fun W => index_run (P := Try.prog) Try.underlying22 size9 ha cap k hlt W
      obtain ⟨key, hkey⟩ : ∃ key, key = ss.getD k ByteArray.empty := ⟨_, rfl⟩
      have hck : wr.cell? ⟨b, off + k, none⟩ = some (.string key) := by rw [hkey]; exact hc k hlt
      have HK : Hid (key = ss.getD k ByteArray.empty) := hkey
      have hks : key.size ≤ maxLen := by rw [hkey]; exact hS.short_at k
      clear hc hbl ha hkey
      have miss : fits num key = false → Hid ((ss.take (k + 1)).any (fits num) = false) := fun hf => any_snoc (by rw [HL.out]; exact hlt) hno.out (by rw [← HK.out]; exact hf)
      by_cases h1 : 1 ≤ key.size
      · by_cases h2 : key.size ≤ 15
        · go_wp2_with (go_at_call 22; refine (hasPrefix_any _ _ _ hnum hks).mono ?_; rintro e w' ⟨rfl, hb'⟩)
          · have ht : pre num key = true := by assumption
            go_ret
            exact ⟨ret_bool (any_hit (k := k) (by rw [HL.out]; exact hlt) (by rw [← HK.out]; simp [fits, h1, h2, ht])).symm, hb.trans (hb'.mono hb.size)⟩
          · have ht : pre num key = false := by assumption
            go_roundw
            case rel => exact ⟨k + 1, by omega, by go_num, miss (by simp [fits, ht]), hb.trans (hb'.mono hb.size)⟩
            case measure => simp [intOf]; omega
        · have hd : decide ((key.size : Int) ≤ 15) = false := decide_eq_false (by omega)
          go_wp2_with fail
          go_roundw
          case rel => exact ⟨k + 1, by omega, by go_num, miss (by simp [fits, h2]), hb⟩
          case measure => simp [intOf]; omega
      · have hd : decide ((1 : Int) ≤ (key.size : Int)) = false := decide_eq_false (by omega)
        go_wp2_with fail
        go_roundw
        case rel => exact ⟨k + 1, by omega, by go_num, miss (by simp [fits, h1]), hb⟩
        case measure => simp [intOf]; omega
    · go_wp2
      go_ret
      exact ⟨ret_bool (any_end (by rw [HL.out]; omega) hno.out).symm, hb⟩

/-- It answers some bool and turns nothing; if 'no', both slices are short. -/
def ShortEnd (l3 l5 : Nat) (w : World) (e : Ending) (w' : World) : Prop := ∃ x, e = .returned (.bool x) ∧ w' = w ∧ (x = false → l3 ≤ 65536 ∧ l5 ≤ 65536)
def SomeBool (w : World) (e : Ending) (w' : World) : Prop := ∃ x, e = .returned (.bool x) ∧ w' = w

set_option maxHeartbeats 1000000 in
theorem tooBig_any (r c d : ByteArray) (a3 a5 : Option Addr) (l3 c3 l5 c5 : Nat) (s3 s5 : List ByteArray) (w : World) (h3 : IsStrs w a3 l3 s3) (h5 : IsStrs w a5 l5 s5) (hl3 : l3 ≤ maxLen) (hl5 : l5 ≤ maxLen) :
    Calls Try.prog 9 #[.string r, .string c, .string d, .slice a3 l3 c3, .slice a5 l5 c5] w fun e w' => ShortEnd l3 l5 w e w' := by
  unfold maxLen at hl3 hl5
  by_cases g3 : l3 ≤ 65536
  · have e3 : decide ((65536 : Int) < (l3 : Int)) = false := decide_eq_false (by omega)
    by_cases g5 : l5 ≤ 65536
    · have e5 : decide ((65536 : Int) < (l5 : Int)) = false := decide_eq_false (by omega)
      by_cases gr : r.size ≤ 1048576
      · have er : decide ((1048576 : Int) < (r.size : Int)) = false := decide_eq_false (by omega)
        by_cases gc : c.size ≤ 1048576
        · have ec : decide ((1048576 : Int) < (c.size : Int)) = false := decide_eq_false (by omega)
          by_cases gd : d.size ≤ 1048576
          · have ed : decide ((1048576 : Int) < (d.size : Int)) = false := decide_eq_false (by omega)
            go_enter Try.func9, Try.ntmps9
            go_wp2
            go_loop [11, 12] (fun t i => ∃ k : Nat, ∃ n : Int, k ≤ l3 ∧ i = .int .i64 k ∧ t = .int .i64 n) (fun _ i => l3 - (intOf i).toNat)
            case atStart => exact ⟨0, _, Nat.zero_le _, rfl, rfl⟩
            case round =>
              obtain ⟨k, n, hk, rfl, rfl⟩ := hrel
              by_cases hlt : k < l3
              · obtain ⟨b, off, ha, hbl, hc⟩ := h3.at_ (by omega)
                have hix := fun W => index_run (P := Try.prog) Try.underlying22 size9 ha c3 k hlt W
                have hck := hc k hlt
                clear hc hbl ha
                go_wp2
                · go_ret
                  exact ⟨_, rfl, rfl, by simp⟩
                · go_ret
                  exact ⟨_, rfl, rfl, by simp⟩
                · go_round
                  case rel => exact ⟨k + 1, _, by omega, by go_num, rfl⟩
                  case measure => simp [intOf]; omega
              · go_wp2
                go_loop [11, 13] (fun t i => ∃ k : Nat, ∃ n : Int, k ≤ l5 ∧ i = .int .i64 k ∧ t = .int .i64 n) (fun _ i => l5 - (intOf i).toNat)
                case atStart => exact ⟨0, _, Nat.zero_le _, rfl, rfl⟩
                case round =>
                  obtain ⟨k, n, hk, rfl, rfl⟩ := hrel
                  by_cases hlt : k < l5
                  · obtain ⟨b, off, ha, hbl, hc⟩ := h5.at_ (by omega)
                    have hix := fun W => index_run (P := Try.prog) Try.underlying22 size9 ha c5 k hlt W
                    have hck := hc k hlt
                    clear hc hbl ha
                    go_wp2
                    · go_ret
                      exact ⟨_, rfl, rfl, by simp⟩
                    · go_ret
                      exact ⟨_, rfl, rfl, by simp⟩
                    · go_round
                      case rel => exact ⟨k + 1, _, by omega, by go_num, rfl⟩
                      case measure => simp [intOf]; omega
                  · go_wp2
                    go_ret
                    exact ⟨_, rfl, rfl, fun _ => ⟨g3, g5⟩⟩
          · have ed : decide ((1048576 : Int) < (d.size : Int)) = true := decide_eq_true (by omega)
            go_enter Try.func9, Try.ntmps9
            go_wp2
            go_ret
            exact ⟨_, rfl, rfl, by simp⟩
        · have ec : decide ((1048576 : Int) < (c.size : Int)) = true := decide_eq_true (by omega)
          go_enter Try.func9, Try.ntmps9
          go_wp2
          go_ret
          exact ⟨_, rfl, rfl, by simp⟩
      · have er : decide ((1048576 : Int) < (r.size : Int)) = true := decide_eq_true (by omega)
        go_enter Try.func9, Try.ntmps9
        go_wp2
        go_ret
        exact ⟨_, rfl, rfl, by simp⟩
    · have e5 : decide ((65536 : Int) < (l5 : Int)) = true := decide_eq_true (by omega)
      go_enter Try.func9, Try.ntmps9
      go_wp2
      go_ret
      exact ⟨_, rfl, rfl, by simp⟩
  · have e3 : decide ((65536 : Int) < (l3 : Int)) = true := decide_eq_true (by omega)
    go_enter Try.func9, Try.ntmps9
    go_wp2
    go_ret
    exact ⟨_, rfl, rfl, by simp⟩

set_option maxHeartbeats 1000000 in
theorem bytes_any (r c d : ByteArray) (a3 a5 : Option Addr) (l3 c3 l5 c5 : Nat) (s3 s5 : List ByteArray) (x4 x6 : Bool) (w : World) (h3 : IsStrs w a3 l3 s3) (h5 : IsStrs w a5 l5 s5) (hl3 : l3 ≤ maxLen) (hl5 : l5 ≤ maxLen) :
    Calls Try.prog 8 #[.string r, .string c, .string d, .slice a3 l3 c3, .bool x4, .slice a5 l5 c5, .bool x6] w fun e w' => SomeBool w e w' := by
  unfold maxLen at hl3 hl5
  go_enter Try.func8, Try.ntmps8
  go_wp2
  iterate 7 (go_ret; exact ⟨_, rfl, rfl⟩)
  go_loop [15, 16] (fun t i => ∃ k : Nat, ∃ n : Int, k ≤ l3 ∧ i = .int .i64 k ∧ t = .int .i64 n) (fun _ i => l3 - (intOf i).toNat)
  case atStart => exact ⟨0, _, Nat.zero_le _, rfl, rfl⟩
  case round =>
    obtain ⟨k, n, hk, rfl, rfl⟩ := hrel
    by_cases hlt : k < l3
    · obtain ⟨b, off, ha, hbl, hc⟩ := h3.at_ (by omega)
      have hix := fun W => index_run (P := Try.prog) Try.underlying22 size9 ha c3 k hlt W
      have hck := hc k hlt
      clear hc hbl ha
      go_wp2
      · go_ret
        exact ⟨_, rfl, rfl⟩
      · go_ret
        exact ⟨_, rfl, rfl⟩
      · go_round
        case rel => exact ⟨k + 1, _, by omega, by go_num, rfl⟩
        case measure => simp [intOf]; omega
    · go_wp2
      · go_ret
        exact ⟨_, rfl, rfl⟩
      · go_ret
        exact ⟨_, rfl, rfl⟩
      go_loop [15, 17] (fun t i => ∃ k : Nat, ∃ n : Int, k ≤ l5 ∧ i = .int .i64 k ∧ t = .int .i64 n) (fun _ i => l5 - (intOf i).toNat)
      case atStart => exact ⟨0, _, Nat.zero_le _, rfl, rfl⟩
      case round =>
        obtain ⟨k, n, hk, rfl, rfl⟩ := hrel
        by_cases hlt : k < l5
        · obtain ⟨b, off, ha, hbl, hc⟩ := h5.at_ (by omega)
          have hix := fun W => index_run (P := Try.prog) Try.underlying22 size9 ha c5 k hlt W
          have hck := hc k hlt
          clear hc hbl ha
          go_wp2
          · go_ret
            exact ⟨_, rfl, rfl⟩
          · go_ret
            exact ⟨_, rfl, rfl⟩
          · go_round
            case rel => exact ⟨k + 1, _, by omega, by go_num, rfl⟩
            case measure => simp [intOf]; omega
        · go_wp2
          go_ret
          exact ⟨_, rfl, rfl⟩
end Go.Proofs.Qxb6601574a
