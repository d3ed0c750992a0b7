import Derived.Test.Qxb6603895aW2
namespace Go.Proofs.Qxb6603895a
open Go.RowKit

theorem zero22 (w : World) : (zeroValue 22).run Try.prog w = .ok (.slice none 0 0) w := by kernel_rfl

set_option maxHeartbeats 400000 in
theorem extra_no (key probe : ByteArray) (v : Value) (w : World) :
    Calls Try.prog 15 #[.map none, .bool false, .string key, v, .string probe] w fun e w' => e = .returned (.bool true) ∧ Below w.heap.size w w' := by
  have hn := fun W => run_eql_map_nil (P := Try.prog) W 28 9 22 none Try.underlying28
  go_enter Try.func15, Try.ntmps15
  go_wp2
  go_ret
  exact ⟨rfl, Below.refl _ _⟩

/-- The map in block b holds just {key: v}. -/
def IsOne (w : World) (b : Nat) (key : ByteArray) (v : Value) : Prop := w.heap[b]? = some (.map #[{ key := .string key, val := v, born := 0 }] 1)

theorem IsOne.below {w w' : World} {b : Nat} {key : ByteArray} {v : Value} (h : IsOne w b key v) (hb : Below w.heap.size w w') : IsOne w' b key v :=
  (hb.block b (by have h' : w.heap[b]? = _ := h; exact (Array.getElem?_eq_some_iff.1 h').1)).trans h

set_option maxHeartbeats 400000 in
theorem extra_yes (b : Nat) (key probe : ByteArray) (a a' : Option Addr) (len c c' : Nat) (ss : List ByteArray) (w : World) (hM : IsOne w b key (.slice a' len c')) (hA : IsStrs w a len ss) (hA' : IsStrs w a' len ss) (hn : a'.isNone = a.isNone) (hlen : len ≤ 65536) :
    Calls Try.prog 15 #[.map (some b), .bool true, .string key, .slice a len c, .string probe] w fun e w' => e = .returned (.bool true) ∧ Below w.heap.size w w' := by
  have hnil := fun W => run_eql_map_nil (P := Try.prog) W 28 9 22 (some b) Try.underlying28
  have hln : ∀ ty, (Builtin.len_ #[28] ty #[.map (some b)]).run Try.prog w = .ok (.int .i64 1) w := fun ty => run_len_map Try.underlying28 hM
  have hlk := run_look Try.underlying28 Try.underlying9 hM key (find_same key _)
  by_cases hp : (probe.toList == key.toList) = true
  · go_enter Try.func15, Try.ntmps15
    go_wp2_with (go_at_call 11; refine (equal_yes a' a len c' c ss _ hA' hA hn hlen).mono ?_; rintro e w' ⟨rfl, hb⟩)
    go_ret
    exact ⟨rfl, hb⟩
  · have hp' : (probe.toList == key.toList) = false := by simpa using hp
    clear hp
    go_enter Try.func15, Try.ntmps15
    go_wp2_with (go_at_call 11; refine (equal_yes a' a len c' c ss _ hA' hA hn hlen).mono ?_; rintro e w' ⟨rfl, hb⟩; have hlk2 := run_look_not Try.underlying28 Try.underlying9 (zero22 w') (hM.below hb) probe (find_other hp' _))
    go_ret
    exact ⟨rfl, hb⟩
end Go.Proofs.Qxb6603895a
