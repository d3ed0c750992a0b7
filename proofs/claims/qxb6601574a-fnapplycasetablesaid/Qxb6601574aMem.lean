/-
  WHAT THE WALKS ARE TOLD OF MEMORY: a slice of strings that came in or that the call itself made; carried over 'Below'.
-/
import Derived.WalkKit
import Derived.WalkSpells
import Derived.WalkLawsBesides
import Derived.Maps.OwnSet
import Derived.Lib.Strings
namespace Go.Proofs.Qxb6601574a
open Go.RowKit

/-- The slice (a, len, ..) reads as the strings ss. Of the address nothing is said where there is no element. -/
structure IsStrs (w : World) (a : Option Addr) (len : Nat) (ss : List ByteArray) : Prop where
  len_eq : ss.length = len
  at_ : 0 < len → ∃ b off, a = some ⟨b, off, none⟩ ∧ b < w.heap.size ∧ ∀ j, j < len → w.cell? ⟨b, off + j, none⟩ = some (.string (ss.getD j ByteArray.empty))
  short : ∀ s ∈ ss, s.size ≤ maxLen

theorem IsStrs.below {w w' : World} {a : Option Addr} {len : Nat} {ss : List ByteArray} (h : IsStrs w a len ss) (hb : Below w.heap.size w w') : IsStrs w' a len ss := by
  refine ⟨h.len_eq, fun h0 => ?_, h.short⟩
  obtain ⟨b, off, e, hlt, hc⟩ := h.at_ h0
  exact ⟨b, off, e, Nat.lt_of_lt_of_le hlt hb.size, fun j hj => (hb.cell (by exact hlt)).trans (hc j hj)⟩

theorem IsStrs.short_at {w : World} {a : Option Addr} {len : Nat} {ss : List ByteArray} (h : IsStrs w a len ss) (k : Nat) : (ss.getD k ByteArray.empty).size ≤ maxLen := by
  rw [List.getD_eq_getElem?_getD]
  cases hk : ss[k]? with
  | none => exact Nat.zero_le _
  | some s => exact h.short s (List.mem_of_getElem? hk)

/-- 's[k]' of a slice whose address is a letter, k within: the run's equation, for the walk. -/
theorem index_run {P : Program} {t e : TypeId} (hu : P.underlying t = some (.slice e)) (hsz : ∀ w, (sizeOf e).run P w = .ok 1 w) {a : Option Addr} {b off len : Nat} (ha : a = some ⟨b, off, none⟩) (cap k : Nat) (hk : k < len) (w : World) :
    (Instr.indexAt t (.slice a len cap) (.int .i64 (k : Int))).run P w = .ok (.pointer (some ⟨b, off + k, none⟩)) w := by
  subst ha
  have h1 : P.elem t = e := by simp [Program.elem, hu]
  rw [run_indexAt_slice _ _ _ _ _ _ _ (by rw [h1]; exact hu), if_pos ⟨by omega, by omega⟩, h1, hsz]
  simp [Result.andThen, Addr.add]

theorem below_ownsMap {H : Type} {B : Nat} {w w' : World} (hb : Below B w w') {P : Program} {k : TypeId} {R : Value → Option (DataW H × List MemPlace)} {b n : Nat} {D : DataW H} (h : w.ownsMap P k R b n D) (hlt : b < B) : w'.ownsMap P k R b n D := by
  obtain ⟨es, clock, h1, r⟩ := h
  exact ⟨es, clock, (hb.block b hlt).trans h1, r⟩

theorem ret_bool {a b : Bool} (h : a = b) : Ending.returned (.bool a) = .returned (.bool b) := by rw [h]

theorem IsStrs.nil (w : World) (a : Option Addr) : IsStrs w a 0 [] := ⟨rfl, fun h => absurd h (by omega), by simp⟩

theorem lt_of_cell {w : World} {a : Addr} {v : Value} (h : w.cell? a = some v) : a.block < w.heap.size := by
  by_cases hl : a.block < w.heap.size
  · exact hl
  · have : w.heap[a.block]? = none := by simp; omega
    simp [World.cell?, this] at h

/-- What 'open_strings' gives. -/
theorem IsStrs.of_open {w : World} {x : Addr} {len cap : Nat} {ss : List ByteArray} (hl : len ≤ cap) (hz : ss.length = cap) (hcell : ∀ i, i < ss.length → w.cell? (x.add i) = some (.string (ss.getD i ByteArray.empty))) (hws : ∀ s ∈ ss, s.size ≤ maxLen) :
    IsStrs w (some x) len (ss.take len) := by
  refine ⟨by simp; omega, fun h0 => ?_, fun s hs => hws s (List.mem_of_mem_take hs)⟩
  obtain ⟨b, off, spot⟩ := x
  have hspot : spot = none := by simpa [Addr.add] using World.cell?_spot (hcell 0 (by omega))
  subst hspot
  have h1 := hcell 0 (by omega)
  simp only [Addr.add_lit] at h1
  refine ⟨b, off, rfl, lt_of_cell h1, fun j hj => ?_⟩
  have h2 := hcell j (by omega)
  simp only [Addr.add_lit] at h2
  rw [h2]
  simp [List.getD, hj]

/-- What the call's own row holds is a slice of strings. -/
theorem IsStrs.of_row {w : World} {base g len cap : Nat} {xs : List Value} {ss : List ByteArray} (h : w.ownsRow base 9 1 (.slice (some ⟨g, 0, none⟩) len cap) len xs) (hl : ss.length = len) (hs : ∀ s ∈ ss, s.size ≤ maxLen)
    (hx : ∀ j, j < len → xs[j]? = some (.string (ss.getD j ByteArray.empty))) : IsStrs w (some ⟨g, 0, none⟩) len ss := by
  refine ⟨hl, fun _ => ⟨g, 0, rfl, (h.lt g rfl).2, fun j hj => ?_⟩, hs⟩
  rw [Nat.zero_add, h.cellAt j (by omega)]
  exact hx j hj

theorem row_store {xs : List Value} {ss : List ByteArray} {k len : Nat} (hl : xs.length = len * 1) (hk : k < len) (h : ∀ j, j < k → xs[j]? = some (.string (ss.getD j ByteArray.empty))) :
    ∀ j, j < k + 1 → (xs.set k (.string (ss.getD k ByteArray.empty)))[j]? = some (.string (ss.getD j ByteArray.empty)) := by
  intro j hj
  by_cases e : j = k
  · subst e
    rw [List.getElem?_set_self (by omega)]
  · rw [List.getElem?_set_ne (by omega)]
    exact h j (by omega)

/-! ### openings of a string, on bytes -/
def pre (s p : ByteArray) : Bool := p.data.toList.isPrefixOf s.data.toList

theorem pre_long {s p : ByteArray} (h : s.size < p.size) : pre s p = false := by
  unfold pre
  rw [Bool.eq_false_iff]
  intro h1
  have := (List.isPrefixOf_iff_prefix.1 h1).length_le
  simp only [Array.length_toList] at this
  exact absurd this (by show ¬ p.size ≤ s.size; omega)

theorem pre_all {s p : ByteArray} (h : ∀ j, j < p.size → s.data.toList[j]? = p.data.toList[j]?) : pre s p = true := by
  unfold pre
  rw [List.isPrefixOf_iff_prefix, List.prefix_iff_getElem?]
  intro i hi
  have hi' : i < p.size := by simpa using hi
  rw [h i hi', List.getElem?_eq_getElem hi]

theorem pre_not {s p : ByteArray} {k : Nat} (hk : k < p.size) (h : s.data.toList[k]? ≠ p.data.toList[k]?) : pre s p = false := by
  unfold pre
  rw [Bool.eq_false_iff]
  intro h1
  have hk' : k < p.data.toList.length := by simpa using hk
  have := (List.prefix_iff_getElem?.1 (List.isPrefixOf_iff_prefix.1 h1)) k hk'
  exact h (by rw [this, List.getElem?_eq_getElem hk'])

theorem byte_at (s : ByteArray) (k : Nat) (h : k < s.size) : s.data.toList[k]? = some s[k] := by
  have h' : k < s.data.toList.length := by simpa using h
  rw [List.getElem?_eq_getElem h']; rfl

theorem bytes_eq {s p : ByteArray} {k : Nat} (h1 : k < s.size) (h2 : k < p.size) (h : ((s[k].toNat : Int) != (p[k].toNat : Int)) = false) : s.data.toList[k]? = p.data.toList[k]? := by
  rw [byte_at s k h1, byte_at p k h2]
  have : (s[k].toNat : Int) = p[k].toNat := by simpa using h
  have h3 : s[k].toNat = p[k].toNat := by omega
  rw [UInt8.toNat_inj.1 h3]

theorem bytes_ne {s p : ByteArray} {k : Nat} (h1 : k < s.size) (h2 : k < p.size) (h : ((s[k].toNat : Int) != (p[k].toNat : Int)) = true) : s.data.toList[k]? ≠ p.data.toList[k]? := by
  rw [byte_at s k h1, byte_at p k h2]
  intro e
  have e' : s[k] = p[k] := by simpa using e
  rw [e'] at h
  simp at h

/-! ### the model's two searches -/
def mem (ss : List ByteArray) (s : ByteArray) : Bool := ss.any fun x => x.toList == s.toList
def fits (num k : ByteArray) : Bool := decide (1 ≤ k.size) && (decide (k.size ≤ 15) && pre num k)
def covered (ss : List ByteArray) (num : ByteArray) : Bool := ss.any (fits num)

theorem any_snoc {f : ByteArray → Bool} {ss : List ByteArray} {k : Nat} (hk : k < ss.length) (h : (ss.take k).any f = false) (h' : f (ss.getD k ByteArray.empty) = false) : (ss.take (k + 1)).any f = false := by
  rw [List.take_succ_eq_append_getElem hk, List.any_append, h]
  simpa [List.getD, hk] using h'
theorem any_hit {f : ByteArray → Bool} {ss : List ByteArray} {k : Nat} (hk : k < ss.length) (h' : f (ss.getD k ByteArray.empty) = true) : ss.any f = true := by
  rw [List.any_eq_true]
  exact ⟨ss[k], List.getElem_mem hk, by simpa [List.getD, hk] using h'⟩
theorem any_end {f : ByteArray → Bool} {ss : List ByteArray} {k : Nat} (hk : ss.length ≤ k) (h : (ss.take k).any f = false) : ss.any f = false := by
  rwa [List.take_of_length_le hk] at h

/-! ### the set, and the longest key in it -/
def Sd (ss : List ByteArray) : DataW Unit := Maps.setOf (.agg []) (ss.map fun s => Lit.string s.data.toList)

theorem Sd_snoc (ss : List ByteArray) (k : Nat) (hk : k < ss.length) : Sd (ss.take (k + 1)) = (Sd (ss.take k)).put (.string (ss.getD k ByteArray.empty).data.toList) (.agg []) := by
  unfold Sd
  rw [List.take_succ_eq_append_getElem hk, List.map_append, List.map_cons, List.map_nil, Maps.setOf_snoc]
  simp [List.getD, hk]

theorem has_Sd (ss : List ByteArray) (s : ByteArray) : Maps.has (Sd ss) (.string s.data.toList) = mem ss s := by
  unfold Sd mem
  rw [Maps.has_setOf _ _ _ (by intro x hx; obtain ⟨y, _, rfl⟩ := List.mem_map.1 hx; trivial), List.any_map]
  congr 1
  funext x
  simp [Lit.sameKey, Lib.toList_data]

def longTo (f : ByteArray → Bool) (num : ByteArray) : Nat → Bool
  | 0 => false
  | n + 1 => f (num.extract 0 (n + 1)) || longTo f num n

theorem longTo_hit {f : ByteArray → Bool} {num : ByteArray} {N k : Nat} (h : longTo f num N = longTo f num k) (hk : 0 < k) (hf : f (num.extract 0 k) = true) : longTo f num N = true := by
  obtain ⟨m, rfl⟩ : ∃ m, k = m + 1 := ⟨k - 1, by omega⟩
  rw [h, longTo, hf]; rfl
theorem longTo_miss {f : ByteArray → Bool} {num : ByteArray} {N k : Nat} (h : longTo f num N = longTo f num k) (hk : 0 < k) (hf : f (num.extract 0 k) = false) : longTo f num N = longTo f num (k - 1) := by
  obtain ⟨m, rfl⟩ : ∃ m, k = m + 1 := ⟨k - 1, by omega⟩
  rw [h, longTo, hf]; rfl
theorem longTo_end {f : ByteArray → Bool} {num : ByteArray} {N k : Nat} (h : longTo f num N = longTo f num k) (hk : ¬ 0 < k) : longTo f num N = false := by
  obtain rfl : k = 0 := by omega
  rw [h]; rfl

theorem longTo_iff (f : ByteArray → Bool) (num : ByteArray) : ∀ n, longTo f num n = true ↔ ∃ m, 1 ≤ m ∧ m ≤ n ∧ f (num.extract 0 m) = true
  | 0 => by simp [longTo]; omega
  | n + 1 => by
    rw [longTo, Bool.or_eq_true, longTo_iff f num n]
    constructor
    · rintro (h | ⟨m, h1, h2, h3⟩)
      · exact ⟨n + 1, by omega, Nat.le_refl _, h⟩
      · exact ⟨m, h1, by omega, h3⟩
    · rintro ⟨m, h1, h2, h3⟩
      by_cases e : m = n + 1
      · subst e; exact .inl h3
      · exact .inr ⟨m, h1, by omega, h3⟩

theorem pre_extract (num k : ByteArray) (h : pre num k = true) : k.toList = (num.extract 0 k.size).toList := by
  unfold pre at h
  obtain ⟨t, ht⟩ := List.isPrefixOf_iff_prefix.1 h
  rw [Lib.toList_data, Lib.extract_toList, ← ht, Lib.size_eq]
  simp

theorem extract_pre (num : ByteArray) (m : Nat) (hm : m ≤ num.size) (k : ByteArray) (h : k.toList = (num.extract 0 m).toList) : pre num k = true ∧ k.size = m := by
  rw [Lib.toList_data, Lib.extract_toList] at h
  refine ⟨?_, ?_⟩
  · unfold pre
    rw [h, List.isPrefixOf_iff_prefix]
    exact List.take_prefix _ _
  · rw [Lib.size_eq] at hm
    rw [Lib.size_eq, h, List.drop_zero, List.length_take]
    omega

theorem pre_cut (s p : ByteArray) (h : p.size ≤ s.size) : ((s.extract 0 p.size).toList == p.toList) = pre s p := by
  rw [Bool.eq_iff_iff, beq_iff_eq]
  constructor
  · intro e
    exact (extract_pre s p.size h p e.symm).1
  · intro e
    exact (pre_extract s p e).symm

/-- THE PLAIN LAW: running over the number's prefixes, or over the keys, comes to one. -/
theorem long_covered (ss : List ByteArray) (num : ByteArray) : longTo (mem ss) num (min num.size 15) = covered ss num := by
  rw [Bool.eq_iff_iff, longTo_iff]
  unfold covered mem
  simp only [List.any_eq_true]
  constructor
  · rintro ⟨m, h1, h2, x, hx, he⟩
    have hm : m ≤ num.size := by omega
    obtain ⟨hp, hsz⟩ := extract_pre num m hm x (by simpa using he)
    exact ⟨x, hx, by simp [fits, hp, hsz]; omega⟩
  · rintro ⟨x, hx, hf⟩
    simp only [fits, Bool.and_eq_true, decide_eq_true_eq] at hf
    obtain ⟨h1, h2, h3⟩ := hf
    have hle : x.size ≤ num.size := by
      by_cases h : num.size < x.size
      · rw [pre_long h] at h3; cases h3
      · omega
    exact ⟨x.size, h1, by omega, x, hx, by simpa using pre_extract num x h3⟩

end Go.Proofs.Qxb6601574a
