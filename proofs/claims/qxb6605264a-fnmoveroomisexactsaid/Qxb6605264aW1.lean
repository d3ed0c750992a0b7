import Derived.Test.Qxb6605264aMem
import Derived.Deep.QuietTactic
import Derived.BigQuiet
namespace Go.Proofs.Qxb6605264a
open Go.RowKit

def SomeBool (w : World) (e : Ending) (w' : World) : Prop := ∃ x, e = .returned (.bool x) ∧ w' = w

/-- A slice of integers handed back in new memory. -/
def CloneEnd (K : IntKind) (T : TypeId) (w : World) (len : Nat) (f : Nat → Int) (e : Ending) (w' : World) : Prop :=
  ∃ a', e = .returned (.slice a' len len) ∧ (a' = none → len = 0) ∧ (0 < len → a' = some ⟨w.heap.size, 0, none⟩ ∧ RowTo K T w' w.heap.size len len f) ∧ Below w.heap.size w w'

set_option maxHeartbeats 400000 in
theorem clone14_nil (n c : Nat) (w : World) : Calls Try.prog 14 #[.slice none n c] w fun e w' => e = .returned (.slice none 0 0) ∧ w' = w := by
  have hn := fun W => Lib.run_eql_slice_nil (P := Try.prog) W 28 3 none n c 0 0 Try.underlying28
  go_enter Try.func14, Try.ntmps14
  go_wp2
  go_ret
  exact ⟨rfl, rfl⟩

set_option maxHeartbeats 400000 in
theorem clone14_some (ad : Addr) (len cap : Nat) (f : Nat → Int) (w : World) (hS : Ints .i64 w (some ad) len f) (hlen : len ≤ 65536) :
    Calls Try.prog 14 #[.slice (some ad) len cap] w fun e w' => CloneEnd .i64 3 w len f e w' := by
  have hn := fun W => Lib.run_eql_slice_nil (P := Try.prog) W 28 3 (some ad) len cap 0 0 Try.underlying28
  obtain ⟨i0, hi, hz0, hz1, hz2⟩ := info_parts Try.info3
  go_enter Try.func14, Try.ntmps14
  go_wp2_with (at_make; refine wpList_make_full _ rfl _ _ 28 rfl w.heap.size 3 i0 (.int .i64 0) 1 Try.underlying28 hi hz0 hz1 _ _ _ _ len rfl rfl rfl rfl (by rw [hz2]; omega) (by unfold maxLen; omega) (Nat.le_refl _) ?_; intro w1 hown hgrow)
  have hb1 : Below w.heap.size w w1 := (Below.refl _ _).grown hgrow (Nat.le_refl _) (by intro k hk; cases hk)
  have hr1 : RowTo .i64 3 w1 w.heap.size len 0 f := (RowTo.made hown).to0
  clear hown hgrow
  go_loopw [4] (fun i wr => ∃ k : Nat, k ≤ len ∧ i = .int .i64 k ∧ Below w.heap.size w wr ∧ RowTo .i64 3 wr w.heap.size len k f) (fun i _ => len - (intOf i).toNat)
  case atStart => exact ⟨0, Nat.zero_le _, rfl, hb1, hr1⟩
  case round =>
    obtain ⟨k, hk, rfl, hb, hrow⟩ := hrel
    clear hr1
    by_cases hlt : k < len
    · obtain ⟨b, off, ha, hbl, hc⟩ := hS.at_ (by omega)
      obtain rfl := Option.some.inj ha
      have hck : wr.cell? ⟨b, off + k, none⟩ = some (.int .i64 (f k)) := by rw [hb.cell (by exact hbl)]; exact hc k hlt
      obtain ⟨⟨u0, hu0⟩, hfr⟩ := hrow.can k hlt
      have H1 := hrow.step hlt
      clear hc hbl
      go_wp2
      go_roundw
      case rel => exact ⟨k + 1, by omega, by go_num, hb.setCell (Nat.le_refl _) _, H1⟩
      case measure => simp [intOf]; omega
    · have hkl : k = len := by omega
      subst hkl
      have HE : CloneEnd .i64 3 w k f (.returned (.slice (some ⟨w.heap.size, 0, none⟩) k k)) wr := ⟨_, rfl, (fun h => by cases h), fun _ => ⟨rfl, hrow⟩, hb⟩
      go_wp2
      go_ret
      exact HE

theorem clone14_any (a : Option Addr) (len cap : Nat) (f : Nat → Int) (w : World) (hS : Ints .i64 w a len f) (hlen : len ≤ 65536) (h0 : a = none → len = 0) :
    Calls Try.prog 14 #[.slice a len cap] w fun e w' => CloneEnd .i64 3 w len f e w' := by
  cases a with
  | some ad => exact clone14_some ad len cap f w hS hlen
  | none =>
    obtain rfl := h0 rfl
    refine (clone14_nil 0 cap w).mono ?_
    rintro e w' ⟨rfl, rfl⟩
    exact ⟨none, rfl, (fun _ => rfl), (fun h => absurd h (by omega)), Below.refl _ _⟩

set_option maxHeartbeats 400000 in
theorem clone15_nil (n c : Nat) (w : World) : Calls Try.prog 15 #[.slice none n c] w fun e w' => e = .returned (.slice none 0 0) ∧ w' = w := by
  have hn := fun W => Lib.run_eql_slice_nil (P := Try.prog) W 29 38 none n c 0 0 Try.underlying29
  go_enter Try.func15, Try.ntmps15
  go_wp2
  go_ret
  exact ⟨rfl, rfl⟩

set_option maxHeartbeats 400000 in
theorem clone15_some (ad : Addr) (len cap : Nat) (f : Nat → Int) (w : World) (hS : Ints .u32 w (some ad) len f) (hlen : len ≤ 65536) :
    Calls Try.prog 15 #[.slice (some ad) len cap] w fun e w' => CloneEnd .u32 38 w len f e w' := by
  have hn := fun W => Lib.run_eql_slice_nil (P := Try.prog) W 29 38 (some ad) len cap 0 0 Try.underlying29
  obtain ⟨i0, hi, hz0, hz1, hz2⟩ := info_parts Try.info38
  go_enter Try.func15, Try.ntmps15
  go_wp2_with (at_make; refine wpList_make_full _ rfl _ _ 29 rfl w.heap.size 38 i0 (.int .u32 0) 1 Try.underlying29 hi hz0 hz1 _ _ _ _ len rfl rfl rfl rfl (by rw [hz2]; omega) (by unfold maxLen; omega) (Nat.le_refl _) ?_; intro w1 hown hgrow)
  have hb1 : Below w.heap.size w w1 := (Below.refl _ _).grown hgrow (Nat.le_refl _) (by intro k hk; cases hk)
  have hr1 : RowTo .u32 38 w1 w.heap.size len 0 f := (RowTo.made hown).to0
  clear hown hgrow
  go_loopw [4] (fun i wr => ∃ k : Nat, k ≤ len ∧ i = .int .i64 k ∧ Below w.heap.size w wr ∧ RowTo .u32 38 wr w.heap.size len k f) (fun i _ => len - (intOf i).toNat)
  case atStart => exact ⟨0, Nat.zero_le _, rfl, hb1, hr1⟩
  case round =>
    obtain ⟨k, hk, rfl, hb, hrow⟩ := hrel
    clear hr1
    by_cases hlt : k < len
    · obtain ⟨b, off, ha, hbl, hc⟩ := hS.at_ (by omega)
      obtain rfl := Option.some.inj ha
      have hck : wr.cell? ⟨b, off + k, none⟩ = some (.int .u32 (f k)) := by rw [hb.cell (by exact hbl)]; exact hc k hlt
      obtain ⟨⟨u0, hu0⟩, hfr⟩ := hrow.can k hlt
      have H1 := hrow.step hlt
      clear hc hbl
      go_wp2
      go_roundw
      case rel => exact ⟨k + 1, by omega, by go_num, hb.setCell (Nat.le_refl _) _, H1⟩
      case measure => simp [intOf]; omega
    · have hkl : k = len := by omega
      subst hkl
      have HE : CloneEnd .u32 38 w k f (.returned (.slice (some ⟨w.heap.size, 0, none⟩) k k)) wr := ⟨_, rfl, (fun h => by cases h), fun _ => ⟨rfl, hrow⟩, hb⟩
      go_wp2
      go_ret
      exact HE

theorem clone15_any (a : Option Addr) (len cap : Nat) (f : Nat → Int) (w : World) (hS : Ints .u32 w a len f) (hlen : len ≤ 65536) (h0 : a = none → len = 0) :
    Calls Try.prog 15 #[.slice a len cap] w fun e w' => CloneEnd .u32 38 w len f e w' := by
  cases a with
  | some ad => exact clone15_some ad len cap f w hS hlen
  | none =>
    obtain rfl := h0 rfl
    refine (clone15_nil 0 cap w).mono ?_
    rintro e w' ⟨rfl, rfl⟩
    exact ⟨none, rfl, (fun _ => rfl), (fun h => absurd h (by omega)), Below.refl _ _⟩

set_option maxHeartbeats 400000 in
theorem clone16_nil (n c : Nat) (w : World) : Calls Try.prog 16 #[.slice none n c] w fun e w' => e = .returned (.slice none 0 0) ∧ w' = w := by
  have hn := fun W => Lib.run_eql_slice_nil (P := Try.prog) W 30 5 none n c 0 0 Try.underlying30
  go_enter Try.func16, Try.ntmps16
  go_wp2
  go_ret
  exact ⟨rfl, rfl⟩

set_option maxHeartbeats 400000 in
theorem clone16_some (ad : Addr) (len cap : Nat) (f : Nat → Int) (w : World) (hS : Ints .u8 w (some ad) len f) (hlen : len ≤ 65536) :
    Calls Try.prog 16 #[.slice (some ad) len cap] w fun e w' => CloneEnd .u8 5 w len f e w' := by
  have hn := fun W => Lib.run_eql_slice_nil (P := Try.prog) W 30 5 (some ad) len cap 0 0 Try.underlying30
  obtain ⟨i0, hi, hz0, hz1, hz2⟩ := info_parts Try.info5
  go_enter Try.func16, Try.ntmps16
  go_wp2_with (at_make; refine wpList_make_full _ rfl _ _ 30 rfl w.heap.size 5 i0 (.int .u8 0) 1 Try.underlying30 hi hz0 hz1 _ _ _ _ len rfl rfl rfl rfl (by rw [hz2]; omega) (by unfold maxLen; omega) (Nat.le_refl _) ?_; intro w1 hown hgrow)
  have hb1 : Below w.heap.size w w1 := (Below.refl _ _).grown hgrow (Nat.le_refl _) (by intro k hk; cases hk)
  have hr1 : RowTo .u8 5 w1 w.heap.size len 0 f := (RowTo.made hown).to0
  clear hown hgrow
  go_loopw [4] (fun i wr => ∃ k : Nat, k ≤ len ∧ i = .int .i64 k ∧ Below w.heap.size w wr ∧ RowTo .u8 5 wr w.heap.size len k f) (fun i _ => len - (intOf i).toNat)
  case atStart => exact ⟨0, Nat.zero_le _, rfl, hb1, hr1⟩
  case round =>
    obtain ⟨k, hk, rfl, hb, hrow⟩ := hrel
    clear hr1
    by_cases hlt : k < len
    · obtain ⟨b, off, ha, hbl, hc⟩ := hS.at_ (by omega)
      obtain rfl := Option.some.inj ha
      have hck : wr.cell? ⟨b, off + k, none⟩ = some (.int .u8 (f k)) := by rw [hb.cell (by exact hbl)]; exact hc k hlt
      obtain ⟨⟨u0, hu0⟩, hfr⟩ := hrow.can k hlt
      have H1 := hrow.step hlt
      clear hc hbl
      go_wp2
      go_roundw
      case rel => exact ⟨k + 1, by omega, by go_num, hb.setCell (Nat.le_refl _) _, H1⟩
      case measure => simp [intOf]; omega
    · have hkl : k = len := by omega
      subst hkl
      have HE : CloneEnd .u8 5 w k f (.returned (.slice (some ⟨w.heap.size, 0, none⟩) k k)) wr := ⟨_, rfl, (fun h => by cases h), fun _ => ⟨rfl, hrow⟩, hb⟩
      go_wp2
      go_ret
      exact HE

theorem clone16_any (a : Option Addr) (len cap : Nat) (f : Nat → Int) (w : World) (hS : Ints .u8 w a len f) (hlen : len ≤ 65536) (h0 : a = none → len = 0) :
    Calls Try.prog 16 #[.slice a len cap] w fun e w' => CloneEnd .u8 5 w len f e w' := by
  cases a with
  | some ad => exact clone16_some ad len cap f w hS hlen
  | none =>
    obtain rfl := h0 rfl
    refine (clone16_nil 0 cap w).mono ?_
    rintro e w' ⟨rfl, rfl⟩
    exact ⟨none, rfl, (fun _ => rfl), (fun h => absurd h (by omega)), Below.refl _ _⟩

set_option maxHeartbeats 1600000 in
theorem bytes12_any (a0 a1 a2 a3 : Option Addr) (l0 c0 l1 c1 l2 c2 l3 c3 : Nat) (i4 i5 i6 i7 : Int) (w : World) :
    Calls Try.prog 12 #[.slice a0 l0 c0, .slice a1 l1 c1, .slice a2 l2 c2, .slice a3 l3 c3, .int .i64 i4, .int .i64 i5, .int .i64 i6, .int .i64 i7] w fun e w' => SomeBool w e w' := by
  go_enter Try.func12, Try.ntmps12
  go_wp2
  all_goals (go_ret; exact ⟨_, rfl, rfl⟩)

set_option maxHeartbeats 1600000 in
theorem bytes20_any (a0 a1 a2 a3 : Option Addr) (l0 c0 l1 c1 l2 c2 l3 c3 : Nat) (i4 i5 i6 i7 i8 i9 : Int) (w : World) :
    Calls Try.prog 20 #[.slice a0 l0 c0, .slice a1 l1 c1, .slice a2 l2 c2, .slice a3 l3 c3, .int .i64 i4, .int .i64 i5, .int .i64 i6, .int .i64 i7, .int .i64 i8, .int .i64 i9] w fun e w' => SomeBool w e w' := by
  go_enter Try.func20, Try.ntmps20
  go_wp2
  all_goals (go_ret; exact ⟨_, rfl, rfl⟩)

end Go.Proofs.Qxb6605264a
