import Derived.Test.Qxb6605264aSnd
import Derived.Test.Qxb6605264aLaw
namespace Go.Proofs.Qxb6605264a
open Go.RowKit

attribute [local go_sem ↓] Go.wp_at_zero Go.wp_at_succ

set_option maxHeartbeats 1600000 in
theorem same18_any (a b : Option Addr) (len ca cb : Nat) (f : Nat → Int) (w : World) (hA : Ints .u32 w a len f) (hB : Ints .u32 w b len f) (hl : len ≤ 1048576) :
    Calls Try.prog 18 #[.slice a len ca, .slice b len cb] w fun e w' => e = .returned (.bool true) ∧ Below w.heap.size w w' := by
  go_enter Try.func18, Try.ntmps18
  go_wp2
  go_loopw [5] (fun i wr => ∃ k : Nat, k ≤ len ∧ i = .int .i64 k ∧ Below w.heap.size w wr) (fun i _ => len - (intOf i).toNat)
  case atStart => exact ⟨0, Nat.zero_le _, rfl, Below.refl _ _⟩
  case round =>
    obtain ⟨k, hk, rfl, hb⟩ := hrel
    by_cases hlt : k < len
    · obtain ⟨b0, o0, f0, g0, d0⟩ := hA.at_ (by omega)
      obtain ⟨b1, o1, f1, g1, d1⟩ := hB.at_ (by omega)
      have j0 := fun W => index_run (P := Try.prog) Try.underlying29 size38 f0 ca k hlt W
      have j1 := fun W => index_run (P := Try.prog) Try.underlying29 size38 f1 cb k hlt W
      have v0 : wr.cell? ⟨b0, o0 + k, none⟩ = some (.int .u32 (f k)) := (hb.cell g0).trans (d0 k hlt)
      have v1 : wr.cell? ⟨b1, o1 + k, none⟩ = some (.int .u32 (f k)) := (hb.cell g1).trans (d1 k hlt)
      clear d0 d1 g0 g1
      go_wp2
      go_region
      go_wp2
      go_roundw
      case rel => exact ⟨k + 1, by omega, by go_num, hb.drew⟩
      case measure => simp [intOf]; omega
    · obtain rfl : k = len := by omega
      go_wp2
      go_ret
      exact ⟨rfl, hb⟩

set_option maxHeartbeats 1600000 in
theorem same19_any (a b : Option Addr) (len ca cb : Nat) (f : Nat → Int) (w : World) (hA : Ints .u8 w a len f) (hB : Ints .u8 w b len f) (hl : len ≤ 1048576) :
    Calls Try.prog 19 #[.slice a len ca, .slice b len cb] w fun e w' => e = .returned (.bool true) ∧ Below w.heap.size w w' := by
  go_enter Try.func19, Try.ntmps19
  go_wp2
  go_loopw [5] (fun i wr => ∃ k : Nat, k ≤ len ∧ i = .int .i64 k ∧ Below w.heap.size w wr) (fun i _ => len - (intOf i).toNat)
  case atStart => exact ⟨0, Nat.zero_le _, rfl, Below.refl _ _⟩
  case round =>
    obtain ⟨k, hk, rfl, hb⟩ := hrel
    by_cases hlt : k < len
    · obtain ⟨b0, o0, f0, g0, d0⟩ := hA.at_ (by omega)
      obtain ⟨b1, o1, f1, g1, d1⟩ := hB.at_ (by omega)
      have j0 := fun W => index_run (P := Try.prog) Try.underlying30 size5 f0 ca k hlt W
      have j1 := fun W => index_run (P := Try.prog) Try.underlying30 size5 f1 cb k hlt W
      have v0 : wr.cell? ⟨b0, o0 + k, none⟩ = some (.int .u8 (f k)) := (hb.cell g0).trans (d0 k hlt)
      have v1 : wr.cell? ⟨b1, o1 + k, none⟩ = some (.int .u8 (f k)) := (hb.cell g1).trans (d1 k hlt)
      clear d0 d1 g0 g1
      go_wp2
      go_region
      go_wp2
      go_roundw
      case rel => exact ⟨k + 1, by omega, by go_num, hb.drew⟩
      case measure => simp [intOf]; omega
    · obtain rfl : k = len := by omega
      go_wp2
      go_ret
      exact ⟨rfl, hb⟩

variable {m L i RM n : Nat} {at_ ln rm f : Nat → Int} {en de : Int}

/-- A byte that lies in no other id: the stale one, or 0. -/
theorem lay_none (S : Nat) (f at_ ln r0 : Nat → Int) (i b : Nat) (hb : b < S) {q : Nat} (h : ∀ p, p < q → p ≠ i → ¬ ((sumTo r0 p).toNat ≤ b ∧ b < (sumTo r0 p).toNat + (ln p).toNat)) :
    lay S f at_ ln r0 q b = if i < q ∧ (sumTo r0 i).toNat ≤ b ∧ b < (sumTo r0 i).toNat + (ln i).toNat then f ((at_ i).toNat + (b - (sumTo r0 i).toNat)) else 0 := by
  induction q with
  | zero => rw [if_neg (by omega)]; rfl
  | succ q ih =>
    have ih := ih (fun p hp => h p (by omega))
    have hmin : Nat.min (ln q).toNat (S - (sumTo r0 q).toNat) ≤ (ln q).toNat := Nat.min_le_left _ _
    rw [lay, over]
    by_cases e : q = i
    · subst e
      by_cases hin : (sumTo r0 q).toNat ≤ b ∧ b < (sumTo r0 q).toNat + (ln q).toNat
      · have hlt : b - (sumTo r0 q).toNat < Nat.min (ln q).toNat (S - (sumTo r0 q).toNat) := Nat.lt_min.2 ⟨by omega, by omega⟩
        rw [if_pos ⟨by omega, by omega⟩, if_pos ⟨by omega, hin⟩]
      · rw [if_neg (by omega), if_neg (by omega), ih, if_neg (by omega)]
    · have h1 := h q (by omega) e
      rw [if_neg (by omega), ih]
      by_cases hin : i < q ∧ (sumTo r0 i).toNat ≤ b ∧ b < (sumTo r0 i).toNat + (ln i).toNat
      · rw [if_pos hin, if_pos ⟨by omega, hin.2⟩]
      · rw [if_neg hin, if_neg (by omega)]
end Go.Proofs.Qxb6605264a
