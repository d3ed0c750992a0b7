import Derived.Test.Qxb6601574aW2
namespace Go.Proofs.Qxb6601574a
open Go.RowKit Go.WideMaps Go.Maps

set_option maxHeartbeats 400000 in
theorem longest_any (v : Value) (f : ByteArray → Bool) (num : ByteArray) (w : World) (hM : IsLook w v f) (hnum : num.size ≤ maxLen) :
    Calls Try.prog 24 #[v, .string num] w fun e w' => e = .returned (.tuple #[.agg #[], .bool (longTo f num (min num.size 15))]) ∧ Below w.heap.size w w' := by
  have hnum' := hnum
  unfold maxLen at hnum'
  go_enter Try.func24, Try.ntmps24
  go_wp2
  all_goals
    go_loopw [6] (fun i wr => ∃ k : Nat, k ≤ num.size ∧ i = .int .i64 k ∧ Below w.heap.size w wr ∧ Hid (longTo f num (min num.size 15) = longTo f num k)) (fun i _ => (intOf i).toNat)
    case atStart =>
      first
        | exact ⟨15, by omega, rfl, (Below.refl _ _).alloc (Nat.le_refl _) _, by rw [Nat.min_eq_right (by omega)]; rfl⟩
        | exact ⟨num.size, by omega, rfl, (Below.refl _ _).alloc (Nat.le_refl _) _, by rw [Nat.min_eq_left (by omega)]; rfl⟩
    case round =>
      obtain ⟨k, hk, rfl, hb, hno⟩ := hrel
      by_cases hpos : 0 < k
      · have hlk := hM wr hb (num.extract 0 k) (by rw [ByteArray.size_extract]; omega)
        go_wp2
        · have ht : f (num.extract 0 k) = true := by assumption
          refine bodyPost_ret (v := .tuple #[.agg #[], .bool true]) (by simp [results, Try.results24, go_sem]) rfl ⟨?_, hb.alloc hb.size _⟩
          rw [longTo_hit hno.out hpos ht]
        · have ht : f (num.extract 0 k) = false := by assumption
          go_roundw
          case rel => exact ⟨k - 1, by omega, by go_num, hb.alloc hb.size _, longTo_miss hno.out hpos ht⟩
          case measure => simp [intOf]; omega
      · go_wp2
        refine bodyPost_ret (v := .tuple #[.agg #[], .bool false]) (by simp [results, Try.results24, go_sem]) rfl ⟨?_, hb.alloc hb.size _⟩
        rw [longTo_end hno.out hpos]

set_option maxHeartbeats 400000 in
theorem covers_any (v : Value) (f : ByteArray → Bool) (num : ByteArray) (w : World) (hM : IsLook w v f) (hnum : num.size ≤ maxLen) :
    Calls Try.prog 19 #[v, .string num] w fun e w' => e = .returned (.bool (longTo f num (min num.size 15))) ∧ Below w.heap.size w w' := by
  go_enter Try.func19, Try.ntmps19
  go_wp2_with (go_at_call 24; refine (longest_any v f num _ hM hnum).mono ?_; rintro e w' ⟨rfl, hb⟩)
  go_ret
  exact ⟨rfl, hb.alloc hb.size _⟩

set_option maxHeartbeats 400000 in
theorem libPrefix_any (s p : ByteArray) (w : World) (_hs : s.size ≤ maxLen) (_hp : p.size ≤ maxLen) :
    Calls Try.prog 20 #[.string s, .string p] w fun e w' => e = .returned (.bool (pre s p)) ∧ w' = w := by
  unfold maxLen at _hs _hp
  by_cases hl : p.size ≤ s.size
  · have hd : decide ((p.size : Int) ≤ (s.size : Int)) = true := decide_eq_true (by omega)
    have hc := pre_cut s p hl
    have HC : Hid (((s.extract 0 p.size).toList == p.toList) = pre s p) := hc
    clear hc
    go_enter Try.func20, Try.ntmps20
    go_wp2
    go_ret
    exact ⟨ret_bool HC.out, rfl⟩
  · have hd : decide ((p.size : Int) ≤ (s.size : Int)) = false := decide_eq_false (by omega)
    go_enter Try.func20, Try.ntmps20
    go_wp2
    go_ret
    exact ⟨ret_bool (pre_long (by omega)).symm, rfl⟩
end Go.Proofs.Qxb6601574a
