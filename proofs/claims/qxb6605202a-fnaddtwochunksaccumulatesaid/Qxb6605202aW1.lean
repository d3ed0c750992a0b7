import Derived.Test.Qxb6605202aProg
import Derived.Test.Qxb6605202aMem
import Derived.Test.Qxb6605202aPlain
import Derived.Deep.QuietTactic
import Derived.BigQuiet
namespace Go.Proofs.Qxb6605202a
open Go.RowKit

theorem size9 (w : World) : (sizeOf 9).run Try.prog w = .ok 1 w := by kernel_rfl
theorem size3 (w : World) : (sizeOf 3).run Try.prog w = .ok 1 w := by kernel_rfl
theorem Try.info9 : (Try.prog.info? 9).map (fun i => (i.zero, i.size, i.bytes)) = some (some (.string ⟨#[]⟩), 1, 16) := by kernel_rfl
theorem Try.info3 : (Try.prog.info? 3).map (fun i => (i.zero, i.size, i.bytes)) = some (some (.int .i64 0), 1, 8) := by kernel_rfl

def SomeBool (w : World) (e : Ending) (w' : World) : Prop := ∃ x, e = .returned (.bool x) ∧ w' = w
def SizeEnd (ss : List ByteArray) (w : World) (e : Ending) (w' : World) : Prop := ∃ x : Int, e = .returned (.int .i64 x) ∧ w' = w ∧ 0 ≤ x ∧ x ≤ 4194304 ∧ (x ≤ 1048576 → tot ss ≤ 1048576)
/-- A slice of strings handed back in new memory. -/
def CloneEnd (w : World) (len : Nat) (ss : List ByteArray) (e : Ending) (w' : World) : Prop :=
  ∃ a' , e = .returned (.slice a' len len) ∧ (a' = none → len = 0) ∧ IsStrs w' a' len ss ∧ Below w.heap.size w w'
def CloneIEnd (w : World) (len : Nat) (zs : List Int) (e : Ending) (w' : World) : Prop :=
  ∃ a' , e = .returned (.slice a' len len) ∧ (a' = none → len = 0) ∧ IsInts .i64 w' a' len zs ∧ Below w.heap.size w w'

set_option maxHeartbeats 400000 in
theorem clone_nil (n c : Nat) (w : World) : Calls Try.prog 8 #[.slice none n c] w fun e w' => e = .returned (.slice none 0 0) ∧ w' = w := by
  have hn := fun W => Lib.run_eql_slice_nil (P := Try.prog) W 23 9 none n c 0 0 Try.underlying23
  go_enter Try.func8, Try.ntmps8
  go_wp2
  go_ret
  exact ⟨rfl, rfl⟩

set_option maxHeartbeats 400000 in
theorem clone_some (ad : Addr) (len cap : Nat) (ss : List ByteArray) (w : World) (hS : IsStrs w (some ad) len ss) (hlen : len ≤ 65536) :
    Calls Try.prog 8 #[.slice (some ad) len cap] w fun e w' => CloneEnd w len ss e w' := by
  have hn := fun W => Lib.run_eql_slice_nil (P := Try.prog) W 23 9 (some ad) len cap 0 0 Try.underlying23
  obtain ⟨i0, hi, hz0, hz1, hz2⟩ := info_parts Try.info9
  go_enter Try.func8, Try.ntmps8
  go_wp2_with (at_make; refine wpList_make_full _ rfl _ _ 23 rfl w.heap.size 9 i0 (.string ⟨#[]⟩) 1 Try.underlying23 hi hz0 hz1 _ _ _ _ len rfl rfl rfl rfl (by rw [hz2]; omega) (by unfold maxLen; omega) (Nat.le_refl _) ?_; intro w1 hown hgrow)
  have hb1 : Below w.heap.size w w1 := (Below.refl _ _).grown hgrow (Nat.le_refl _) (by intro k hk; cases hk)
  go_loopw [4] (fun i wr => ∃ k : Nat, k ≤ len ∧ i = .int .i64 k ∧ Below w.heap.size w wr ∧ ∃ xs, wr.ownsRow w.heap.size 9 1 (.slice (some ⟨w.heap.size, 0, none⟩) len len) len xs ∧ Hid (∀ j, j < k → xs[j]? = some (.string (ss.getD j ByteArray.empty)))) (fun i _ => len - (intOf i).toNat)
  case atStart => exact ⟨0, Nat.zero_le _, rfl, hb1, _, hown, fun j hj => absurd hj (by omega)⟩
  case round =>
    obtain ⟨k, hk, rfl, hb, xs, hrow, hxs⟩ := hrel
    by_cases hlt : k < len
    · obtain ⟨b, off, ha, hbl, hc⟩ := hS.at_ (by omega)
      obtain rfl := Option.some.inj ha
      obtain ⟨key, hkey⟩ : ∃ key, key = ss.getD k ByteArray.empty := ⟨_, rfl⟩
      have hck : wr.cell? ⟨b, off + k, none⟩ = some (.string key) := by rw [hkey, hb.cell (by exact hbl)]; exact hc k hlt
      have HK : Hid (key = ss.getD k ByteArray.empty) := hkey
      obtain ⟨u0, hu0⟩ : ∃ u0, wr.cell? ⟨w.heap.size, k, none⟩ = some u0 := by
        rw [hrow.cellAt k (by omega)]
        exact ⟨_, List.getElem?_eq_getElem (by have := hrow.1; omega)⟩
      have hfr := hrow.frozenAt k
      have H1 := hrow.stored k (.string key)
      have H2 : Hid (∀ j, j < k + 1 → (xs.set k (.string key))[j]? = some (.string (ss.getD j ByteArray.empty))) := by rw [hkey]; exact row_store hrow.1 hlt hxs.out
      clear hc hbl hkey
      go_wp2
      go_roundw
      case rel => exact ⟨k + 1, by omega, by go_num, hb.setCell (Nat.le_refl _) _, _, H1.1, H2⟩
      case measure => simp [intOf]; omega
    · have hkl : k = len := by omega
      have HE : CloneEnd w len ss (.returned (.slice (some ⟨w.heap.size, 0, none⟩) len len)) wr := ⟨_, rfl, (fun h => by cases h), IsStrs.of_row hrow hS.len_eq hS.short (fun j hj => hxs.out j (by omega)), hb⟩
      clear hkl
      go_wp2
      go_ret
      exact HE

/-- The copy of whatever slice of strings, nil or not. -/
theorem clone_any (a : Option Addr) (len cap : Nat) (ss : List ByteArray) (w : World) (hS : IsStrs w a len ss) (hlen : len ≤ 65536) (h0 : a = none → len = 0) :
    Calls Try.prog 8 #[.slice a len cap] w fun e w' => CloneEnd w len ss e w' := by
  cases a with
  | some ad => exact clone_some ad len cap ss w hS hlen
  | none =>
    obtain rfl := h0 rfl
    refine (clone_nil 0 cap w).mono ?_
    rintro e w' ⟨rfl, rfl⟩
    exact ⟨none, rfl, (fun _ => rfl), ⟨hS.len_eq, fun h => absurd h (by omega), hS.short⟩, Below.refl _ _⟩

set_option maxHeartbeats 400000 in
theorem clonei_nil (n c : Nat) (w : World) : Calls Try.prog 7 #[.slice none n c] w fun e w' => e = .returned (.slice none 0 0) ∧ w' = w := by
  have hn := fun W => Lib.run_eql_slice_nil (P := Try.prog) W 22 3 none n c 0 0 Try.underlying22
  go_enter Try.func7, Try.ntmps7
  go_wp2
  go_ret
  exact ⟨rfl, rfl⟩

set_option maxHeartbeats 400000 in
theorem clonei_some (ad : Addr) (len cap : Nat) (ss : List Int) (w : World) (hS : IsInts .i64 w (some ad) len ss) (hlen : len ≤ 65536) :
    Calls Try.prog 7 #[.slice (some ad) len cap] w fun e w' => CloneIEnd w len ss e w' := by
  have hn := fun W => Lib.run_eql_slice_nil (P := Try.prog) W 22 3 (some ad) len cap 0 0 Try.underlying22
  obtain ⟨i0, hi, hz0, hz1, hz2⟩ := info_parts Try.info3
  go_enter Try.func7, Try.ntmps7
  go_wp2_with (at_make; refine wpList_make_full _ rfl _ _ 22 rfl w.heap.size 3 i0 (.int .i64 0) 1 Try.underlying22 hi hz0 hz1 _ _ _ _ len rfl rfl rfl rfl (by rw [hz2]; omega) (by unfold maxLen; omega) (Nat.le_refl _) ?_; intro w1 hown hgrow)
  have hb1 : Below w.heap.size w w1 := (Below.refl _ _).grown hgrow (Nat.le_refl _) (by intro k hk; cases hk)
  go_loopw [4] (fun i wr => ∃ k : Nat, k ≤ len ∧ i = .int .i64 k ∧ Below w.heap.size w wr ∧ ∃ xs, wr.ownsRow w.heap.size 3 1 (.slice (some ⟨w.heap.size, 0, none⟩) len len) len xs ∧ Hid (∀ j, j < k → xs[j]? = some (.int .i64 (ss.getD j 0)))) (fun i _ => len - (intOf i).toNat)
  case atStart => exact ⟨0, Nat.zero_le _, rfl, hb1, _, hown, fun j hj => absurd hj (by omega)⟩
  case round =>
    obtain ⟨k, hk, rfl, hb, xs, hrow, hxs⟩ := hrel
    by_cases hlt : k < len
    · obtain ⟨b, off, ha, hbl, hc⟩ := hS.at_ (by omega)
      obtain rfl := Option.some.inj ha
      obtain ⟨key, hkey⟩ : ∃ key, key = ss.getD k 0 := ⟨_, rfl⟩
      have hck : wr.cell? ⟨b, off + k, none⟩ = some (.int .i64 key) := by rw [hkey, hb.cell (by exact hbl)]; exact hc k hlt
      have HK : Hid (key = ss.getD k 0) := hkey
      obtain ⟨u0, hu0⟩ : ∃ u0, wr.cell? ⟨w.heap.size, k, none⟩ = some u0 := by
        rw [hrow.cellAt k (by omega)]
        exact ⟨_, List.getElem?_eq_getElem (by have := hrow.1; omega)⟩
      have hfr := hrow.frozenAt k
      have H1 := hrow.stored k (.int .i64 key)
      have H2 : Hid (∀ j, j < k + 1 → (xs.set k (.int .i64 key))[j]? = some (.int .i64 (ss.getD j 0))) := by rw [hkey]; exact irow_store (k := .i64) hrow.1 hlt hxs.out
      clear hc hbl hkey
      go_wp2
      go_roundw
      case rel => exact ⟨k + 1, by omega, by go_num, hb.setCell (Nat.le_refl _) _, _, H1.1, H2⟩
      case measure => simp [intOf]; omega
    · have hkl : k = len := by omega
      have HE : CloneIEnd w len ss (.returned (.slice (some ⟨w.heap.size, 0, none⟩) len len)) wr := ⟨_, rfl, (fun h => by cases h), IsInts.of_row (k := .i64) hrow hS.len_eq hS.wf (fun j hj => hxs.out j (by omega)), hb⟩
      clear hkl
      go_wp2
      go_ret
      exact HE

/-- The copy of whatever slice of strings, nil or not. -/
theorem clonei_any (a : Option Addr) (len cap : Nat) (ss : List Int) (w : World) (hS : IsInts .i64 w a len ss) (hlen : len ≤ 65536) (h0 : a = none → len = 0) :
    Calls Try.prog 7 #[.slice a len cap] w fun e w' => CloneIEnd w len ss e w' := by
  cases a with
  | some ad => exact clonei_some ad len cap ss w hS hlen
  | none =>
    obtain rfl := h0 rfl
    refine (clonei_nil 0 cap w).mono ?_
    rintro e w' ⟨rfl, rfl⟩
    exact ⟨none, rfl, (fun _ => rfl), ⟨hS.len_eq, fun h => absurd h (by omega), hS.wf⟩, Below.refl _ _⟩

set_option maxHeartbeats 400000 in
theorem strBytes_any (a : Option Addr) (len cap : Nat) (ss : List ByteArray) (w : World) (hS : IsStrs w a len ss) (hl : len ≤ 65536) :
    Calls Try.prog 6 #[.slice a len cap] w fun e w' => SizeEnd ss w e w' := by
  have HL : Hid (ss.length = len) := hS.len_eq
  go_enter Try.func6, Try.ntmps6
  go_wp2
  go_loop [3, 4] (fun t i => ∃ k : Nat, k ≤ len ∧ i = .int .i64 k ∧ ∃ n : Nat, t = .int .i64 n ∧ n ≤ 1048576 ∧ Hid (n = 16 * len + tot (ss.take k))) (fun _ i => len - (intOf i).toNat)
  case atStart => exact ⟨0, Nat.zero_le _, rfl, 16 * len, by go_num, by omega, by simp [Hid, tot]⟩
  case round =>
    obtain ⟨k, hk, rfl, n, rfl, hn, hno⟩ := hrel
    by_cases hlt : k < len
    · obtain ⟨b, off, ha, hbl, hc⟩ := hS.at_ (by omega)
      have hix := fun W => index_run (P := Try.prog) Try.underlying23 size9 ha cap k hlt W
      obtain ⟨key, hkey⟩ : ∃ key, key = ss.getD k ByteArray.empty := ⟨_, rfl⟩
      have hck : w.cell? ⟨b, off + k, none⟩ = some (.string key) := by rw [hkey]; exact hc k hlt
      have HK : Hid (tot (ss.take (k + 1)) = tot (ss.take k) + key.size) := by rw [hkey]; exact tot_snoc ss k (by rw [HL.out]; exact hlt)
      clear hc hbl ha hkey
      go_wp2
      · go_ret
        exact ⟨_, rfl, rfl, by omega, by omega, fun h => by omega⟩
      · have h1 : (1048576 : Int) < ↑n + ↑key.size := by assumption
        have h2 : (key.size : Int) ≤ 1048576 := by assumption
        go_ret
        exact ⟨_, rfl, rfl, by omega, by omega, fun h => by omega⟩
      · have h1 : (n : Int) + ↑key.size ≤ 1048576 := by assumption
        go_round
        case rel => exact ⟨k + 1, by omega, by go_num, n + key.size, by go_num, by omega, by have := HK.out; have := hno.out; show _ = _; omega⟩
        case measure => simp [intOf]; omega
    · have ht : ss.take k = ss := List.take_of_length_le (by rw [HL.out]; omega)
      rw [ht] at hno
      clear ht
      go_wp2
      go_ret
      exact ⟨_, rfl, rfl, by omega, by omega, fun h => by have := hno.out; omega⟩

end Go.Proofs.Qxb6605202a
