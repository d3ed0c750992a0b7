import Derived.Test.Qxb6603895aProg
import Derived.Test.Qxb6603895aMem
import Derived.Deep.QuietTactic
import Derived.BigQuiet
import Derived.ArgAppend
import Derived.Deep.AppendLies
namespace Go.Proofs.Qxb6603895a
open Go.RowKit

theorem size9 (w : World) : (sizeOf 9).run Try.prog w = .ok 1 w := by kernel_rfl
theorem Try.info9 : (Try.prog.info? 9).map (fun i => (i.zero, i.size, i.bytes)) = some (some (.string ⟨#[]⟩), 1, 16) := by kernel_rfl

def SomeBool (w : World) (e : Ending) (w' : World) : Prop := ∃ x, e = .returned (.bool x) ∧ w' = w
def SomeInt (w : World) (e : Ending) (w' : World) : Prop := ∃ x, e = .returned (.int .i64 x) ∧ w' = w
/-- A slice of strings handed back in new memory, nil just if the first was. -/
def CloneEnd (w : World) (a : Option Addr) (len : Nat) (ss : List ByteArray) (e : Ending) (w' : World) : Prop :=
  ∃ a' , e = .returned (.slice a' len len) ∧ a'.isNone = a.isNone ∧ IsStrs w' a' len ss ∧ Below w.heap.size w w'

set_option maxHeartbeats 400000 in
theorem clone_nil (n c : Nat) (w : World) : Calls Try.prog 8 #[.slice none n c] w fun e w' => e = .returned (.slice none 0 0) ∧ w' = w := by
  have hn := fun W => Lib.run_eql_slice_nil (P := Try.prog) W 22 9 none n c 0 0 Try.underlying22
  go_enter Try.func8, Try.ntmps8
  go_wp2
  go_ret
  exact ⟨rfl, rfl⟩

set_option maxHeartbeats 400000 in
theorem clone_some (ad : Addr) (len cap : Nat) (ss : List ByteArray) (w : World) (hS : IsStrs w (some ad) len ss) (hlen : len ≤ 65536) :
    Calls Try.prog 8 #[.slice (some ad) len cap] w fun e w' => CloneEnd w (some ad) len ss e w' := by
  have hn := fun W => Lib.run_eql_slice_nil (P := Try.prog) W 22 9 (some ad) len cap 0 0 Try.underlying22
  obtain ⟨i0, hi, hz0, hz1, hz2⟩ := info_parts Try.info9
  go_enter Try.func8, Try.ntmps8
  go_wp2_with (at_make; refine wpList_make_full _ rfl _ _ 22 rfl w.heap.size 9 i0 (.string ⟨#[]⟩) 1 Try.underlying22 hi hz0 hz1 _ _ _ _ len rfl rfl rfl rfl (by rw [hz2]; omega) (by unfold maxLen; omega) (Nat.le_refl _) ?_; intro w1 hown hgrow)
  have hb1 : Below w.heap.size w w1 := (Below.refl _ _).grown hgrow (Nat.le_refl _) (by intro k hk; cases hk)
  go_loopw [4] (fun i wr => ∃ k : Nat, k ≤ len ∧ i = .int .i64 k ∧ Below w.heap.size w wr ∧ ∃ xs, wr.ownsRow w.heap.size 9 1 (.slice (some ⟨w.heap.size, 0, none⟩) len len) len xs ∧ Hid (∀ j, j < k → xs[j]? = some (.string (ss.getD j ByteArray.empty)))) (fun i _ => len - (intOf i).toNat)
  case atStart => exact ⟨0, Nat.zero_le _, rfl, hb1, _, hown, fun j hj => absurd hj (by omega)⟩
  case round =>
    obtain ⟨k, hk, rfl, hb, xs, hrow, hxs⟩ := hrel
    by_cases hlt : k < len
    · obtain ⟨b, off, ha, hbl, hc⟩ := hS.at_ (by omega)
      obtain rfl := Option.some.inj ha
      obtain ⟨key, hkey⟩ : ∃ key, key = ss.getD k ByteArray.empty := ⟨_, rfl⟩
      have hck : wr.cell? ⟨b, off + k, none⟩ = some (.string key) := by rw [hkey, hb.cell (by exact hbl)]; exact hc k hlt
      have HK : Hid (key = ss.getD k ByteArray.empty) := hkey
      obtain ⟨u0, hu0⟩ : ∃ u0, wr.cell? ⟨w.heap.size, k, none⟩ = some u0 := by
        rw [hrow.cellAt k (by omega)]
        exact ⟨_, List.getElem?_eq_getElem (by have := hrow.1; omega)⟩
      have hfr := hrow.frozenAt k
      have H1 := hrow.stored k (.string key)
      have H2 : Hid (∀ j, j < k + 1 → (xs.set k (.string key))[j]? = some (.string (ss.getD j ByteArray.empty))) := by rw [hkey]; exact row_store hrow.1 hlt hxs.out
      clear hc hbl hkey
      go_wp2
      go_roundw
      case rel => exact ⟨k + 1, by omega, by go_num, hb.setCell (Nat.le_refl _) _, _, H1.1, H2⟩
      case measure => simp [intOf]; omega
    · have hkl : k = len := by omega
      have HE : CloneEnd w (some ad) len ss (.returned (.slice (some ⟨w.heap.size, 0, none⟩) len len)) wr := ⟨_, rfl, rfl, IsStrs.of_row hrow hS.len_eq hS.short (fun j hj => hxs.out j (by omega)), hb⟩
      clear hkl
      go_wp2
      go_ret
      exact HE

/-- The copy of whatever slice of strings, nil or not. -/
theorem clone_any (a : Option Addr) (len cap : Nat) (ss : List ByteArray) (w : World) (hS : IsStrs w a len ss) (hlen : len ≤ 65536) (h0 : a = none → len = 0) :
    Calls Try.prog 8 #[.slice a len cap] w fun e w' => CloneEnd w a len ss e w' := by
  cases a with
  | some ad => exact clone_some ad len cap ss w hS hlen
  | none =>
    obtain rfl := h0 rfl
    refine (clone_nil 0 cap w).mono ?_
    rintro e w' ⟨rfl, rfl⟩
    exact ⟨none, rfl, rfl, ⟨hS.len_eq, fun h => absurd h (by omega), hS.short⟩, Below.refl _ _⟩

set_option maxHeartbeats 400000 in
theorem contains_any (a : Option Addr) (len cap : Nat) (ss : List ByteArray) (s : ByteArray) (w : World) (hS : IsStrs w a len ss) (_hlen : len ≤ 65536) :
    Calls Try.prog 14 #[.slice a len cap, .string s] w fun e w' => e = .returned (.bool (mem ss s)) ∧ w' = w := by
  have hl := hS.len_eq
  have HL : Hid (ss.length = len) := hl
  clear hl
  go_enter Try.func14, Try.ntmps14
  go_wp2
  go_loop [5] (fun i => ∃ k : Nat, k ≤ len ∧ i = .int .i64 k ∧ Hid ((ss.take k).any (fun x => x.toList == s.toList) = false)) (fun i => len - (intOf i).toNat)
  case atStart => exact ⟨0, Nat.zero_le _, rfl, by simp [Hid]⟩
  case round =>
    obtain ⟨k, hk, rfl, hno⟩ := hrel
    by_cases hlt : k < len
    · obtain ⟨b, off, ha, hbl, hc⟩ := hS.at_ (by omega)
      have hix := fun W => index_run (P := Try.prog) Try.underlying22 size9 ha cap k hlt W
      obtain ⟨key, hkey⟩ : ∃ key, key = ss.getD k ByteArray.empty := ⟨_, rfl⟩
      have hck : w.cell? ⟨b, off + k, none⟩ = some (.string key) := by rw [hkey]; exact hc k hlt
      have HK : Hid (key = ss.getD k ByteArray.empty) := hkey
      clear hc hbl ha hkey
      go_wp2
      · have ht : (key.toList == s.toList) = true := by assumption
        go_ret
        exact ⟨ret_bool (any_hit (k := k) (by rw [HL.out]; exact hlt) (by rw [← HK.out]; exact ht)).symm, rfl⟩
      · have ht : (key.toList == s.toList) = false := by assumption
        go_round
        case rel => exact ⟨k + 1, by omega, by go_num, any_snoc (by rw [HL.out]; exact hlt) hno.out (by rw [← HK.out]; exact ht)⟩
        case measure => simp [intOf]; omega
    · go_wp2
      go_ret
      exact ⟨ret_bool (any_end (by rw [HL.out]; omega) hno.out).symm, rfl⟩

set_option maxHeartbeats 400000 in
theorem index_any (a : Option Addr) (len cap : Nat) (ss : List ByteArray) (s : ByteArray) (w : World) (hS : IsStrs w a len ss) (_hlen : len ≤ 65536) :
    Calls Try.prog 17 #[.slice a len cap, .string s] w fun e w' => e = .returned (.bool (mem ss s)) ∧ w' = w := by
  have hl := hS.len_eq
  have HL : Hid (ss.length = len) := hl
  clear hl
  go_enter Try.func17, Try.ntmps17
  go_wp2
  go_loop [8, 5] (fun i _ => ∃ k : Nat, k ≤ len ∧ i = .int .i64 k ∧ Hid ((ss.take k).any (fun x => x.toList == s.toList) = false)) (fun i _ => len - (intOf i).toNat)
  case atStart => exact ⟨0, Nat.zero_le _, rfl, by simp [Hid]⟩
  case round =>
    obtain ⟨k, hk, rfl, hno⟩ := hrel
    by_cases hlt : k < len
    · obtain ⟨b, off, ha, hbl, hc⟩ := hS.at_ (by omega)
      have hix := fun W => index_run (P := Try.prog) Try.underlying22 size9 ha cap k hlt W
      obtain ⟨key, hkey⟩ : ∃ key, key = ss.getD k ByteArray.empty := ⟨_, rfl⟩
      have hck : w.cell? ⟨b, off + k, none⟩ = some (.string key) := by rw [hkey]; exact hc k hlt
      have HK : Hid (key = ss.getD k ByteArray.empty) := hkey
      clear hc hbl ha hkey
      go_wp2
      · have ht : (s.toList == key.toList) = true := by assumption
        go_ret
        exact ⟨ret_bool (any_hit (k := k) (by rw [HL.out]; exact hlt) (by rw [← HK.out, Bool.beq_comm]; exact ht)).symm, rfl⟩
      · have ht : (s.toList == key.toList) = false := by assumption
        go_round
        case rel => exact ⟨k + 1, by omega, by go_num, any_snoc (by rw [HL.out]; exact hlt) hno.out (by rw [← HK.out, Bool.beq_comm]; exact ht)⟩
        case measure => simp [intOf]; omega
    · go_wp2
      go_ret
      exact ⟨ret_bool (any_end (by rw [HL.out]; omega) hno.out).symm, rfl⟩

set_option maxHeartbeats 400000 in
/-- Two slices of the same strings, both nil or neither: 'yes'. -/
theorem equal_yes (a b : Option Addr) (len ca cb : Nat) (ss : List ByteArray) (w : World) (hA : IsStrs w a len ss) (hB : IsStrs w b len ss) (hn : a.isNone = b.isNone) (_hlen : len ≤ 65536) :
    Calls Try.prog 11 #[.slice a len ca, .slice b len cb] w fun e w' => e = .returned (.bool true) ∧ Below w.heap.size w w' := by
  have n1 := fun W => Lib.run_eql_slice_nil (P := Try.prog) W 22 9 a len ca 0 0 Try.underlying22
  have n2 := fun W => Lib.run_eql_slice_nil (P := Try.prog) W 22 9 b len cb 0 0 Try.underlying22
  go_enter Try.func11, Try.ntmps11
  go_wp2
  go_loopw [5] (fun i wr => ∃ k : Nat, k ≤ len ∧ i = .int .i64 k ∧ Below w.heap.size w wr) (fun i _ => len - (intOf i).toNat)
  case atStart => exact ⟨0, Nat.zero_le _, rfl, Below.refl _ _⟩
  case round =>
    obtain ⟨k, hk, rfl, hb⟩ := hrel
    by_cases hlt : k < len
    · obtain ⟨ba, oa, ea, _, ha⟩ := (hA.below hb).at_ (by omega)
      obtain ⟨bb, ob, eb, _, hb'⟩ := (hB.below hb).at_ (by omega)
      have hix := fun W => index_run (P := Try.prog) Try.underlying22 size9 ea ca k hlt W
      have hiy := fun W => index_run (P := Try.prog) Try.underlying22 size9 eb cb k hlt W
      obtain ⟨key, hkey⟩ : ∃ key, key = ss.getD k ByteArray.empty := ⟨_, rfl⟩
      have hck : wr.cell? ⟨ba, oa + k, none⟩ = some (.string key) := by rw [hkey]; exact ha k hlt
      have hcl : wr.cell? ⟨bb, ob + k, none⟩ = some (.string key) := by rw [hkey]; exact hb' k hlt
      clear ha hb' ea eb hkey
      go_wp2
      go_quiet (fail)
      go_wp2
      go_roundw
      case rel => exact ⟨k + 1, by omega, by go_num, below_drewN hb _⟩
      case measure => simp [intOf]; omega
    · go_wp2
      go_ret
      exact ⟨rfl, hb⟩

set_option maxHeartbeats 400000 in
theorem strBytes_any (a : Option Addr) (len cap : Nat) (ss : List ByteArray) (w : World) (hS : IsStrs w a len ss) (hl : len ≤ maxLen) :
    Calls Try.prog 7 #[.slice a len cap] w fun e w' => SomeInt w e w' := by
  unfold maxLen at hl
  go_enter Try.func7, Try.ntmps7
  go_wp2
  go_loop [3, 4] (fun t i => ∃ k : Nat, ∃ n : Int, k ≤ len ∧ i = .int .i64 k ∧ t = .int .i64 n) (fun _ i => len - (intOf i).toNat)
  case atStart => exact ⟨0, _, Nat.zero_le _, rfl, rfl⟩
  case round =>
    obtain ⟨k, n, hk, rfl, rfl⟩ := hrel
    by_cases hlt : k < len
    · obtain ⟨b, off, ha, hbl, hc⟩ := hS.at_ (by omega)
      have hix := fun W => index_run (P := Try.prog) Try.underlying22 size9 ha cap k hlt W
      have hck := hc k hlt
      clear hc hbl ha
      go_wp2
      · go_ret
        exact ⟨_, rfl, rfl⟩
      · go_ret
        exact ⟨_, rfl, rfl⟩
      · go_round
        case rel => exact ⟨k + 1, _, by omega, by go_num, rfl⟩
        case measure => simp [intOf]; omega
    · go_wp2
      go_ret
      exact ⟨_, rfl, rfl⟩

set_option maxHeartbeats 1000000 in
theorem bytes_any (s0 s1 s4 s6 : ByteArray) (a2 a5 : Option Addr) (l2 c2 l5 c5 : Nat) (t2 t5 : List ByteArray) (x3 : Bool) (w : World) (h2 : IsStrs w a2 l2 t2) (h5 : IsStrs w a5 l5 t5) (hl2 : l2 ≤ maxLen) (hl5 : l5 ≤ maxLen) :
    Calls Try.prog 12 #[.string s0, .string s1, .slice a2 l2 c2, .bool x3, .string s4, .slice a5 l5 c5, .string s6] w fun e w' => SomeBool w e w' := by
  unfold maxLen at hl2 hl5
  go_enter Try.func12, Try.ntmps12
  go_wp2
  any_goals (go_ret; exact ⟨_, rfl, rfl⟩)
  go_loop [15, 16] (fun t i => ∃ k : Nat, ∃ n : Int, k ≤ l2 ∧ i = .int .i64 k ∧ t = .int .i64 n) (fun _ i => l2 - (intOf i).toNat)
  case atStart => exact ⟨0, _, Nat.zero_le _, rfl, rfl⟩
  case round =>
    obtain ⟨k, n, hk, rfl, rfl⟩ := hrel
    by_cases hlt : k < l2
    · obtain ⟨b, off, ha, hbl, hc⟩ := h2.at_ (by omega)
      have hix := fun W => index_run (P := Try.prog) Try.underlying22 size9 ha c2 k hlt W
      have hck := hc k hlt
      clear hc hbl ha
      go_wp2
      · go_ret
        exact ⟨_, rfl, rfl⟩
      · go_ret
        exact ⟨_, rfl, rfl⟩
      · go_round
        case rel => exact ⟨k + 1, _, by omega, by go_num, rfl⟩
        case measure => simp [intOf]; omega
    · go_wp2
      any_goals (go_ret; exact ⟨_, rfl, rfl⟩)
      go_loop [15, 17] (fun t i => ∃ k : Nat, ∃ n : Int, k ≤ l5 ∧ i = .int .i64 k ∧ t = .int .i64 n) (fun _ i => l5 - (intOf i).toNat)
      case atStart => exact ⟨0, _, Nat.zero_le _, rfl, rfl⟩
      case round =>
        obtain ⟨k, n, hk, rfl, rfl⟩ := hrel
        by_cases hlt : k < l5
        · obtain ⟨b, off, ha, hbl, hc⟩ := h5.at_ (by omega)
          have hix := fun W => index_run (P := Try.prog) Try.underlying22 size9 ha c5 k hlt W
          have hck := hc k hlt
          clear hc hbl ha
          go_wp2
          · go_ret
            exact ⟨_, rfl, rfl⟩
          · go_ret
            exact ⟨_, rfl, rfl⟩
          · go_round
            case rel => exact ⟨k + 1, _, by omega, by go_num, rfl⟩
            case measure => simp [intOf]; omega
        · go_wp2
          any_goals (go_ret; exact ⟨_, rfl, rfl⟩)
end Go.Proofs.Qxb6603895a
