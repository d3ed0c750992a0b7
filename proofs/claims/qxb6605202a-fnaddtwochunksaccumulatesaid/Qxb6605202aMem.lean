/-
  WHAT THE WALKS ARE TOLD OF MEMORY: a slice of strings that came in or that the call itself made; carried over 'Below'.
-/
import Derived.WalkKit
import Derived.WalkSpells
import Derived.WalkLawsBesides
import Derived.Maps.OwnSet
import Derived.Lib.Strings
namespace Go.Proofs.Qxb6605202a
open Go.RowKit

/-- The slice (a, len, ..) reads as the strings ss. Of the address nothing is said where there is no element. -/
structure IsStrs (w : World) (a : Option Addr) (len : Nat) (ss : List ByteArray) : Prop where
  len_eq : ss.length = len
  at_ : 0 < len → ∃ b off, a = some ⟨b, off, none⟩ ∧ b < w.heap.size ∧ ∀ j, j < len → w.cell? ⟨b, off + j, none⟩ = some (.string (ss.getD j ByteArray.empty))
  short : ∀ s ∈ ss, s.size ≤ maxLen

theorem IsStrs.below {w w' : World} {a : Option Addr} {len : Nat} {ss : List ByteArray} (h : IsStrs w a len ss) (hb : Below w.heap.size w w') : IsStrs w' a len ss := by
  refine ⟨h.len_eq, fun h0 => ?_, h.short⟩
  obtain ⟨b, off, e, hlt, hc⟩ := h.at_ h0
  exact ⟨b, off, e, Nat.lt_of_lt_of_le hlt hb.size, fun j hj => (hb.cell (by exact hlt)).trans (hc j hj)⟩

theorem IsStrs.short_at {w : World} {a : Option Addr} {len : Nat} {ss : List ByteArray} (h : IsStrs w a len ss) (k : Nat) : (ss.getD k ByteArray.empty).size ≤ maxLen := by
  rw [List.getD_eq_getElem?_getD]
  cases hk : ss[k]? with
  | none => exact Nat.zero_le _
  | some s => exact h.short s (List.mem_of_getElem? hk)

/-- 's[k]' of a slice whose address is a letter, k within: the run's equation, for the walk. -/
theorem index_run {P : Program} {t e : TypeId} (hu : P.underlying t = some (.slice e)) (hsz : ∀ w, (sizeOf e).run P w = .ok 1 w) {a : Option Addr} {b off len : Nat} (ha : a = some ⟨b, off, none⟩) (cap k : Nat) (hk : k < len) (w : World) :
    (Instr.indexAt t (.slice a len cap) (.int .i64 (k : Int))).run P w = .ok (.pointer (some ⟨b, off + k, none⟩)) w := by
  subst ha
  have h1 : P.elem t = e := by simp [Program.elem, hu]
  rw [run_indexAt_slice _ _ _ _ _ _ _ (by rw [h1]; exact hu), if_pos ⟨by omega, by omega⟩, h1, hsz]
  simp [Result.andThen, Addr.add]

theorem below_ownsMap {H : Type} {B : Nat} {w w' : World} (hb : Below B w w') {P : Program} {k : TypeId} {R : Value → Option (DataW H × List MemPlace)} {b n : Nat} {D : DataW H} (h : w.ownsMap P k R b n D) (hlt : b < B) : w'.ownsMap P k R b n D := by
  obtain ⟨es, clock, h1, r⟩ := h
  exact ⟨es, clock, (hb.block b hlt).trans h1, r⟩

theorem ret_bool {a b : Bool} (h : a = b) : Ending.returned (.bool a) = .returned (.bool b) := by rw [h]

theorem IsStrs.nil (w : World) (a : Option Addr) : IsStrs w a 0 [] := ⟨rfl, fun h => absurd h (by omega), by simp⟩

theorem lt_of_cell {w : World} {a : Addr} {v : Value} (h : w.cell? a = some v) : a.block < w.heap.size := by
  by_cases hl : a.block < w.heap.size
  · exact hl
  · have : w.heap[a.block]? = none := by simp; omega
    simp [World.cell?, this] at h

/-- What 'open_strings' gives. -/
theorem IsStrs.of_open {w : World} {x : Addr} {len cap : Nat} {ss : List ByteArray} (hl : len ≤ cap) (hz : ss.length = cap) (hcell : ∀ i, i < ss.length → w.cell? (x.add i) = some (.string (ss.getD i ByteArray.empty))) (hws : ∀ s ∈ ss, s.size ≤ maxLen) :
    IsStrs w (some x) len (ss.take len) := by
  refine ⟨by simp; omega, fun h0 => ?_, fun s hs => hws s (List.mem_of_mem_take hs)⟩
  obtain ⟨b, off, spot⟩ := x
  have hspot : spot = none := by simpa [Addr.add] using World.cell?_spot (hcell 0 (by omega))
  subst hspot
  have h1 := hcell 0 (by omega)
  simp only [Addr.add_lit] at h1
  refine ⟨b, off, rfl, lt_of_cell h1, fun j hj => ?_⟩
  have h2 := hcell j (by omega)
  simp only [Addr.add_lit] at h2
  rw [h2]
  simp [List.getD, hj]

theorem IsStrs.olds {w : World} {a : Option Addr} {len : Nat} {ss : List ByteArray} (h : IsStrs w a len ss) : ∀ b, a = some b → ∀ j u, (ss.map Value.string)[j]? = some u → w.cell? (b.add j) = some u := by
  intro b hb j u hu
  rw [List.getElem?_map, Option.map_eq_some_iff] at hu
  obtain ⟨s, hs, rfl⟩ := hu
  have hj : j < len := by rw [← h.len_eq]; exact (List.getElem?_eq_some_iff.1 hs).1
  obtain ⟨b', off, e, _, hc⟩ := h.at_ (by omega)
  rw [e] at hb
  obtain rfl := Option.some.inj hb
  rw [Addr.add_lit, hc j hj]
  simp [List.getD, hs]

/-- What the call's own row holds, string by string. -/
theorem IsStrs.of_own {w : World} {base g len cap : Nat} {ss : List ByteArray} (h : w.ownsRow base 9 1 (.slice (some ⟨g, 0, none⟩) len cap) len (ss.map Value.string)) (hs : ∀ s ∈ ss, s.size ≤ maxLen) : IsStrs w (some ⟨g, 0, none⟩) len ss := by
  have hl : ss.length = len := by have := h.1; simpa using this
  refine ⟨hl, fun _ => ⟨g, 0, rfl, (h.lt g rfl).2, fun j hj => ?_⟩, hs⟩
  rw [Nat.zero_add, h.cellAt j (by omega), List.getElem?_map, List.getElem?_eq_getElem (by omega)]
  simp [List.getD, show j < ss.length by omega]

/-- What the call's own row holds is a slice of strings. -/
theorem IsStrs.of_row {w : World} {base g len cap : Nat} {xs : List Value} {ss : List ByteArray} (h : w.ownsRow base 9 1 (.slice (some ⟨g, 0, none⟩) len cap) len xs) (hl : ss.length = len) (hs : ∀ s ∈ ss, s.size ≤ maxLen)
    (hx : ∀ j, j < len → xs[j]? = some (.string (ss.getD j ByteArray.empty))) : IsStrs w (some ⟨g, 0, none⟩) len ss := by
  refine ⟨hl, fun _ => ⟨g, 0, rfl, (h.lt g rfl).2, fun j hj => ?_⟩, hs⟩
  rw [Nat.zero_add, h.cellAt j (by omega)]
  exact hx j hj

theorem row_store {xs : List Value} {ss : List ByteArray} {k len : Nat} (hl : xs.length = len * 1) (hk : k < len) (h : ∀ j, j < k → xs[j]? = some (.string (ss.getD j ByteArray.empty))) :
    ∀ j, j < k + 1 → (xs.set k (.string (ss.getD k ByteArray.empty)))[j]? = some (.string (ss.getD j ByteArray.empty)) := by
  intro j hj
  by_cases e : j = k
  · subst e
    rw [List.getElem?_set_self (by omega)]
  · rw [List.getElem?_set_ne (by omega)]
    exact h j (by omega)

theorem map_take_snoc (ss : List ByteArray) (k : Nat) (hk : k < ss.length) : (ss.take (k + 1)).map Value.string = (ss.take k).map Value.string ++ [.string (ss.getD k ByteArray.empty)] := by
  rw [List.take_succ_eq_append_getElem hk, List.map_append, List.map_cons, List.map_nil, List.getD_eq_getElem?_getD, List.getElem?_eq_getElem hk]
  rfl

theorem str_oneCell (s : ByteArray) : ∀ u ∈ [Value.string s], u.oneCell' = true := by
  intro u hu
  simp at hu
  subst hu
  rfl


/-! ### slices of integers -/
structure IsInts (k : IntKind) (w : World) (a : Option Addr) (len : Nat) (zs : List Int) : Prop where
  len_eq : zs.length = len
  at_ : 0 < len → ∃ b off, a = some ⟨b, off, none⟩ ∧ b < w.heap.size ∧ ∀ j, j < len → w.cell? ⟨b, off + j, none⟩ = some (.int k (zs.getD j 0))
  wf : ∀ n ∈ zs, (Lit.int k n).wf = true

theorem IsInts.below {k : IntKind} {w w' : World} {a : Option Addr} {len : Nat} {zs : List Int} (h : IsInts k w a len zs) (hb : Below w.heap.size w w') : IsInts k w' a len zs := by
  refine ⟨h.len_eq, fun h0 => ?_, h.wf⟩
  obtain ⟨b, off, e, hlt, hc⟩ := h.at_ h0
  exact ⟨b, off, e, Nat.lt_of_lt_of_le hlt hb.size, fun j hj => (hb.cell (by exact hlt)).trans (hc j hj)⟩

theorem IsInts.nil (k : IntKind) (w : World) (a : Option Addr) : IsInts k w a 0 [] := ⟨rfl, fun h => absurd h (by omega), by simp⟩

theorem IsInts.of_open {k : IntKind} {w : World} {x : Addr} {len cap : Nat} {zs : List Int} (hl : len ≤ cap) (hz : zs.length = cap) (hcell : ∀ i, i < zs.length → w.cell? (x.add i) = some (.int k (zs.getD i 0))) (hws : ∀ n ∈ zs, (Lit.int k n).wf = true) :
    IsInts k w (some x) len (zs.take len) := by
  refine ⟨by simp; omega, fun h0 => ?_, fun s hs => hws s (List.mem_of_mem_take hs)⟩
  obtain ⟨b, off, spot⟩ := x
  have hspot : spot = none := by simpa [Addr.add] using World.cell?_spot (hcell 0 (by omega))
  subst hspot
  have h1 := hcell 0 (by omega)
  simp only [Addr.add_lit] at h1
  refine ⟨b, off, rfl, lt_of_cell h1, fun j hj => ?_⟩
  have h2 := hcell j (by omega)
  simp only [Addr.add_lit] at h2
  rw [h2]
  simp [List.getD, hj]

theorem IsInts.of_row {k : IntKind} {e : TypeId} {w : World} {base g len cap : Nat} {xs : List Value} {zs : List Int} (h : w.ownsRow base e 1 (.slice (some ⟨g, 0, none⟩) len cap) len xs) (hl : zs.length = len) (hs : ∀ n ∈ zs, (Lit.int k n).wf = true)
    (hx : ∀ j, j < len → xs[j]? = some (.int k (zs.getD j 0))) : IsInts k w (some ⟨g, 0, none⟩) len zs := by
  refine ⟨hl, fun _ => ⟨g, 0, rfl, (h.lt g rfl).2, fun j hj => ?_⟩, hs⟩
  rw [Nat.zero_add, h.cellAt j (by omega)]
  exact hx j hj

theorem irow_store {k : IntKind} {xs : List Value} {zs : List Int} {i len : Nat} (hl : xs.length = len * 1) (hk : i < len) (h : ∀ j, j < i → xs[j]? = some (.int k (zs.getD j 0))) :
    ∀ j, j < i + 1 → (xs.set i (.int k (zs.getD i 0)))[j]? = some (.int k (zs.getD j 0)) := by
  intro j hj
  by_cases e : j = i
  · subst e
    rw [List.getElem?_set_self (by omega)]
  · rw [List.getElem?_set_ne (by omega)]
    exact h j (by omega)

end Go.Proofs.Qxb6605202a
