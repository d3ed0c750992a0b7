/-
  THE DRAFT IN MEMORY, and what each of the program's steps does to it. The ghost 'tag' says to which part a block belongs: none: to no part; 0 the draft itself, 1 the text's row, 2 the map, 3 the indexes' row, 4 the usage, 5 + 2 i the i-th call, 6 + 2 i its arguments' row. So no two parts share a block.
-/
import Derived.Test.Qxb6605202aW4
namespace Go.Proofs.Qxb6605202a
open Go.RowKit

theorem ownsRowF_same {w w' : World} {base : Nat} {v : Value} {n : Nat} {xs : List Value} (h : w.ownsRowF base 5 1 v n xs) (hb : ∀ g, v.ownBlock = some g → w'.heap[g]? = w.heap[g]?) : w'.ownsRowF base 5 1 v n xs := by
  refine ⟨h.1, ?_⟩
  rcases h.2 with hn | ⟨g, cap, cur, fz, rfl, hbg, hgg, rest⟩
  · exact .inl hn
  · exact .inr ⟨g, cap, cur, fz, rfl, hbg, (hb g rfl).trans hgg, rest⟩
theorem ownsRow_same {w w' : World} {base : Nat} {e : TypeId} {v : Value} {n : Nat} {xs : List Value} (h : w.ownsRow base e 1 v n xs) (hb : ∀ g, v.ownBlock = some g → w'.heap[g]? = w.heap[g]?) : w'.ownsRow base e 1 v n xs := by
  refine ⟨h.1, ?_⟩
  rcases h.2 with hn | ⟨g, cap, cur, rfl, hbg, hgg, rest⟩
  · exact .inl hn
  · exact .inr ⟨g, cap, cur, rfl, hbg, (hb g rfl).trans hgg, rest⟩

theorem nodup_inj {l : List Int} (h : l.Nodup) {i j : Nat} {k : Int} (hi : l[i]? = some k) (hj : l[j]? = some k) : i = j := by
  obtain ⟨h1, e1⟩ := List.getElem?_eq_some_iff.1 hi
  obtain ⟨h2, e2⟩ := List.getElem?_eq_some_iff.1 hj
  have hp := List.pairwise_iff_getElem.1 h
  rcases Nat.lt_trichotomy i j with h3 | h3 | h3
  · exact absurd (e1.trans e2.symm) (hp i j h1 h2 h3)
  · exact h3
  · exact absurd (e2.trans e1.symm) (hp j i h2 h1 h3)

def Ents (es : Array MapEntry) (keys : List Int) (blk : Nat → Nat) : Prop :=
  es.size = keys.length ∧ ∀ i k, keys[i]? = some k → ∃ e : MapEntry, es[i]? = some e ∧ e.key = .int .i64 k ∧ e.val = .pointer (some ⟨blk i, 0, none⟩)

def UseAt (w : World) (tag : Nat → Option Nat) (us : Option (Int × Int)) (up : Option Addr) : Prop :=
  (us = none ∧ up = none) ∨ ∃ bu p c, us = some (p, c) ∧ up = some ⟨bu, 0, none⟩ ∧ tag bu = some 4 ∧ w.heap[bu]? = some (.cells #[.int .i64 p, .int .i64 c] 79 (0, 0))

/-- The call of key k in block b, the i-th. -/
def CallAt (base : Nat) (w : World) (tag : Nat → Option Nat) (k : Int) (fs : List Frag) (b i : Nat) : Prop :=
  tag b = some (5 + 2 * i) ∧ ∃ p v, w.heap[b]? = some (.cells #[.string (firstOf (·.id) k fs), .string (firstOf (·.ty) k fs), .string (firstOf (·.nm) k fs), .string E, p, v] 75 (0, 0)) ∧ (p = .pointer none ∨ p = .pointer (some ⟨b, 4, none⟩)) ∧
    w.ownsRowF base 5 1 v (catOf k fs).length (Lib.byteCells (catOf k fs)) ∧ ∀ g, v.ownBlock = some g → tag g = some (6 + 2 * i)

structure DraftAt (base : Nat) (w : World) (d : Nat) (text : List UInt8) (fin : ByteArray) (us : Option (Int × Int)) (fs : List Frag) (tag : Nat → Option Nat) (p v iv : Value) (up : Option Addr) (m : Option Nat) (blk : Nat → Nat) : Prop where
  low : ∀ j, j < base → tag j = none
  sup : ∀ j, w.heap.size ≤ j → tag j = none
  bsz : base ≤ w.heap.size
  d0 : w.heap[d]? = some (.cells #[p, v, .string fin, .pointer up, .map m, iv] 40 (0, 0))
  dt : tag d = some 0
  self : p = .pointer none ∨ p = .pointer (some ⟨d, 0, none⟩)
  txt : w.ownsRowF base 5 1 v text.length (Lib.byteCells text)
  txtT : ∀ g, v.ownBlock = some g → tag g = some 1
  idx : w.ownsRow base 3 1 iv (firsts fs).length ((firsts fs).map (Value.int .i64))
  idxT : ∀ g, iv.ownBlock = some g → tag g = some 3
  mp : (m = none ∧ fs = []) ∨ ∃ bm es clock, m = some bm ∧ tag bm = some 2 ∧ w.heap[bm]? = some (.map es clock) ∧ Ents es (firsts fs) blk
  use : UseAt w tag us up
  calls : ∀ i k, (firsts fs)[i]? = some k → CallAt base w tag k fs (blk i) i

/-- What was there and belongs to no part of the draft stands. -/
structure Step (tag tag' : Nat → Option Nat) (w w' : World) : Prop where
  os : w'.os = w.os
  tape : w'.tape = w.tape
  output : w'.output = w.output
  size : w.heap.size ≤ w'.heap.size
  same : ∀ j, j < w.heap.size → tag' j = tag j
  keep : ∀ j, j < w.heap.size → tag j = none → w'.heap[j]? = w.heap[j]?

theorem Step.refl (tag : Nat → Option Nat) (w : World) : Step tag tag w w := ⟨rfl, rfl, rfl, Nat.le_refl _, fun _ _ => rfl, fun _ _ _ => rfl⟩
theorem Step.trans {t1 t2 t3 : Nat → Option Nat} {w1 w2 w3 : World} (h : Step t1 t2 w1 w2) (h' : Step t2 t3 w2 w3) : Step t1 t3 w1 w3 :=
  ⟨h'.os.trans h.os, h'.tape.trans h.tape, h'.output.trans h.output, Nat.le_trans h.size h'.size, fun j hj => (h'.same j (Nat.lt_of_lt_of_le hj h.size)).trans (h.same j hj),
    fun j hj ht => (h'.keep j (Nat.lt_of_lt_of_le hj h.size) ((h.same j hj).trans ht)).trans (h.keep j hj ht)⟩
theorem Step.of_below {tag : Nat → Option Nat} {w w' : World} (h : Below w.heap.size w w') : Step tag tag w w' := ⟨h.os, h.tape, h.output, h.size, fun _ _ => rfl, fun j hj _ => h.block j hj⟩
theorem Step.below {tag tag' : Nat → Option Nat} {w w' : World} (h : Step tag tag' w w') {B : Nat} (hB : B ≤ w.heap.size) (hl : ∀ j, j < B → tag j = none) : Below B w w' :=
  ⟨h.os, h.tape, h.output, h.size, fun k hk => h.keep k (Nat.lt_of_lt_of_le hk hB) (hl k hk)⟩
/-- A block that belongs to no part, and slices in such. -/
theorem Step.strs {tag tag' : Nat → Option Nat} {w w' : World} (h : Step tag tag' w w') {B : Nat} (hB : B ≤ w.heap.size) (hl : ∀ j, j < B → tag j = none) {a : Option Addr} {len : Nat} {ss : List ByteArray} {w0 : World} (h0 : IsStrs w0 a len ss) (hw0 : w0.heap.size ≤ B) (hb0 : Below w0.heap.size w0 w) : IsStrs w' a len ss :=
  h0.below (hb0.trans ((h.below hB hl).mono hw0))

section
variable {base : Nat} {w w' : World} {d : Nat} {text : List UInt8} {fin : ByteArray} {us : Option (Int × Int)} {fs fs' : List Frag} {tag tag' : Nat → Option Nat} {p v iv : Value} {up : Option Addr} {m : Option Nat} {blk : Nat → Nat}

theorem tag_lt (hs : ∀ j, w.heap.size ≤ j → tag j = none) {j t : Nat} (h : tag j = some t) : j < w.heap.size := by
  rcases Nat.lt_or_ge j w.heap.size with h' | h'
  · exact h'
  · rw [hs j h'] at h; cases h

theorem CallAt.move {k : Int} {b i : Nat} (h : CallAt base w tag k fs b i) (hT : ∀ j t, tag j = some t → tag' j = some t) (h1 : ∀ j, tag j = some (5 + 2 * i) → w'.heap[j]? = w.heap[j]?) (h2 : ∀ j, tag j = some (6 + 2 * i) → w'.heap[j]? = w.heap[j]?)
    (e1 : firstOf (·.id) k fs' = firstOf (·.id) k fs) (e2 : firstOf (·.ty) k fs' = firstOf (·.ty) k fs) (e3 : firstOf (·.nm) k fs' = firstOf (·.nm) k fs) (e4 : catOf k fs' = catOf k fs) : CallAt base w' tag' k fs' b i := by
  obtain ⟨ht, p, v, hb, hp, hown, hg⟩ := h
  refine ⟨hT _ _ ht, p, v, ?_, hp, ?_, fun g h => hT _ _ (hg g h)⟩
  · rw [e1, e2, e3]; exact (h1 b ht).trans hb
  · rw [e4]; exact ownsRowF_same hown (fun g h => h2 g (hg g h))

theorem UseAt.move (h : UseAt w tag us up) (hT : ∀ j t, tag j = some t → tag' j = some t) (h1 : ∀ j, tag j = some 4 → w'.heap[j]? = w.heap[j]?) : UseAt w' tag' us up := by
  rcases h with h | ⟨bu, p, c, e1, e2, ht, hb⟩
  · exact .inl h
  · exact .inr ⟨bu, p, c, e1, e2, hT _ _ ht, (h1 bu ht).trans hb⟩

/-- Nothing of the draft has turned. -/
theorem DraftAt.keep (h : DraftAt base w d text fin us fs tag p v iv up m blk) (hs : w.heap.size ≤ w'.heap.size) (hk : ∀ j t, tag j = some t → w'.heap[j]? = w.heap[j]?) : DraftAt base w' d text fin us fs tag p v iv up m blk where
  low := h.low
  sup := fun j hj => h.sup j (Nat.le_trans hs hj)
  bsz := Nat.le_trans h.bsz hs
  d0 := (hk _ _ h.dt).trans h.d0
  dt := h.dt
  self := h.self
  txt := ownsRowF_same h.txt (fun g hg => hk _ _ (h.txtT g hg))
  txtT := h.txtT
  idx := ownsRow_same h.idx (fun g hg => hk _ _ (h.idxT g hg))
  idxT := h.idxT
  mp := by
    rcases h.mp with h' | ⟨bm, es, clock, e1, e2, e3, e4⟩
    · exact .inl h'
    · exact .inr ⟨bm, es, clock, e1, e2, (hk _ _ e2).trans e3, e4⟩
  use := h.use.move (fun _ _ h => h) (fun j hj => hk _ _ hj)
  calls := fun i k hik => (h.calls i k hik).move (fun _ _ h => h) (fun j hj => hk _ _ hj) (fun j hj => hk _ _ hj) rfl rfl rfl rfl

theorem DraftAt.below (h : DraftAt base w d text fin us fs tag p v iv up m blk) (hb : Below w.heap.size w w') : DraftAt base w' d text fin us fs tag p v iv up m blk :=
  h.keep hb.size (fun j _ ht => hb.block j (tag_lt h.sup ht))

/-- The text is written on (or read out): the draft's own cells 0 and 1, and the text's row. -/
theorem DraftAt.onText (h : DraftAt base w d text fin us fs tag p v iv up m blk) {p' v' : Value} {text' : List UInt8} (hp : p' = .pointer none ∨ p' = .pointer (some ⟨d, 0, none⟩)) (hd : w'.heap[d]? = some (.cells #[p', v', .string fin, .pointer up, .map m, iv] 40 (0, 0)))
    (htx : w'.ownsRowF base 5 1 v' text'.length (Lib.byteCells text')) (hlie : v'.ownBlock = v.ownBlock ∨ ∃ g, v'.ownBlock = some g ∧ w.heap.size ≤ g) (hf : Fr w w' d v.ownBlock) :
    ∃ tag', DraftAt base w' d text' fin us fs tag' p' v' iv up m blk ∧ Step tag tag' w w' := by
  have hk : ∀ j t, tag j = some t → t ≠ 0 → t ≠ 1 → w'.heap[j]? = w.heap[j]? := fun j t ht h0 h1 =>
    hf.block j (tag_lt h.sup ht) (fun e => by rw [e, h.dt] at ht; exact h0 (Option.some.inj ht).symm) (fun e => by rw [h.txtT j e.symm] at ht; exact h1 (Option.some.inj ht).symm)
  have hkn : ∀ j, j < w.heap.size → tag j = none → w'.heap[j]? = w.heap[j]? := fun j hj ht =>
    hf.block j hj (fun e => by rw [e, h.dt] at ht; cases ht) (fun e => by rw [h.txtT j e.symm] at ht; cases ht)
  obtain ⟨tag', ht1, ht2, ht3, ht4⟩ : ∃ tag' : Nat → Option Nat, (∀ j, j < w.heap.size → tag' j = tag j) ∧ (∀ g, v'.ownBlock = some g → tag' g = some 1) ∧ (∀ j, w'.heap.size ≤ j → tag' j = none) ∧ (∀ j t, tag j = some t → tag' j = some t) := by
    rcases hlie with hl | ⟨g, hl, hg⟩
    · exact ⟨tag, fun _ _ => rfl, fun g hg => h.txtT g (by rw [← hl]; exact hg), fun j hj => h.sup j (Nat.le_trans hf.size hj), fun _ _ h => h⟩
    · refine ⟨fun j => if j = g then some 1 else tag j, fun j hj => if_neg (by omega), fun g' hg' => ?_, fun j hj => ?_, fun j t ht => ?_⟩
      · rw [hl] at hg'; obtain rfl := Option.some.inj hg'; exact if_pos rfl
      · have := (htx.lt g hl).2
        show (if j = g then some 1 else tag j) = none
        rw [if_neg (by omega)]; exact h.sup j (Nat.le_trans hf.size hj)
      · have := tag_lt h.sup ht
        show (if j = g then some 1 else tag j) = some t
        rw [if_neg (by omega)]; exact ht
  refine ⟨tag', ⟨fun j hj => (ht1 j (Nat.lt_of_lt_of_le hj h.bsz)).trans (h.low j hj), ht3, Nat.le_trans h.bsz hf.size, hd, ht4 _ _ h.dt, hp, htx, ht2, ?_, fun g hg => ht4 _ _ (h.idxT g hg), ?_, ?_, ?_⟩, ⟨hf.os, hf.tape, hf.output, hf.size, ht1, hkn⟩⟩
  · exact ownsRow_same h.idx (fun g hg => hk _ _ (h.idxT g hg) (by omega) (by omega))
  · rcases h.mp with h' | ⟨bm, es, clock, e1, e2, e3, e4⟩
    · exact .inl h'
    · exact .inr ⟨bm, es, clock, e1, ht4 _ _ e2, (hk _ _ e2 (by omega) (by omega)).trans e3, e4⟩
  · exact h.use.move ht4 (fun j hj => hk _ _ hj (by omega) (by omega))
  · exact fun i k hik => (h.calls i k hik).move ht4 (fun j hj => hk _ _ hj (by omega) (by omega)) (fun j hj => hk _ _ hj (by omega) (by omega)) rfl rfl rfl rfl

/-- One call is written on (or read out): its block, and its arguments' row. -/
theorem DraftAt.onCall (h : DraftAt base w d text fin us fs tag p v iv up m blk) {i : Nat} {k : Int} (hik : (firsts fs)[i]? = some k) {q u q' u' : Value} (hfst : firsts fs' = firsts fs)
    (hoth : ∀ k', k' ≠ k → firstOf (·.id) k' fs' = firstOf (·.id) k' fs ∧ firstOf (·.ty) k' fs' = firstOf (·.ty) k' fs ∧ firstOf (·.nm) k' fs' = firstOf (·.nm) k' fs ∧ catOf k' fs' = catOf k' fs)
    (hc : w.heap[blk i]? = some (.cells #[.string (firstOf (·.id) k fs), .string (firstOf (·.ty) k fs), .string (firstOf (·.nm) k fs), .string E, q, u] 75 (0, 0))) (hut : ∀ g, u.ownBlock = some g → tag g = some (6 + 2 * i))
    (hq : q' = .pointer none ∨ q' = .pointer (some ⟨blk i, 4, none⟩)) (hd : w'.heap[blk i]? = some (.cells #[.string (firstOf (·.id) k fs'), .string (firstOf (·.ty) k fs'), .string (firstOf (·.nm) k fs'), .string E, q', u'] 75 (0, 0)))
    (htx : w'.ownsRowF base 5 1 u' (catOf k fs').length (Lib.byteCells (catOf k fs'))) (hlie : u'.ownBlock = u.ownBlock ∨ ∃ g, u'.ownBlock = some g ∧ w.heap.size ≤ g) (hf : Fr w w' (blk i) u.ownBlock) :
    ∃ tag', DraftAt base w' d text fin us fs' tag' p v iv up m blk ∧ Step tag tag' w w' := by
  have hbt : tag (blk i) = some (5 + 2 * i) := (h.calls i k hik).1
  have hk : ∀ j t, tag j = some t → t ≠ 5 + 2 * i → t ≠ 6 + 2 * i → w'.heap[j]? = w.heap[j]? := fun j t ht h0 h1 =>
    hf.block j (tag_lt h.sup ht) (fun e => by rw [e, hbt] at ht; exact h0 (Option.some.inj ht).symm) (fun e => by rw [hut j e.symm] at ht; exact h1 (Option.some.inj ht).symm)
  have hkn : ∀ j, j < w.heap.size → tag j = none → w'.heap[j]? = w.heap[j]? := fun j hj ht =>
    hf.block j hj (fun e => by rw [e, hbt] at ht; cases ht) (fun e => by rw [hut j e.symm] at ht; cases ht)
  obtain ⟨tag', ht1, ht2, ht3, ht4⟩ : ∃ tag' : Nat → Option Nat, (∀ j, j < w.heap.size → tag' j = tag j) ∧ (∀ g, u'.ownBlock = some g → tag' g = some (6 + 2 * i)) ∧ (∀ j, w'.heap.size ≤ j → tag' j = none) ∧ (∀ j t, tag j = some t → tag' j = some t) := by
    rcases hlie with hl | ⟨g, hl, hg⟩
    · exact ⟨tag, fun _ _ => rfl, fun g hg => hut g (by rw [← hl]; exact hg), fun j hj => h.sup j (Nat.le_trans hf.size hj), fun _ _ h => h⟩
    · refine ⟨fun j => if j = g then some (6 + 2 * i) else tag j, fun j hj => if_neg (by omega), fun g' hg' => ?_, fun j hj => ?_, fun j t ht => ?_⟩
      · rw [hl] at hg'; obtain rfl := Option.some.inj hg'; exact if_pos rfl
      · have := (htx.lt g hl).2
        show (if j = g then some (6 + 2 * i) else tag j) = none
        rw [if_neg (by omega)]; exact h.sup j (Nat.le_trans hf.size hj)
      · have := tag_lt h.sup ht
        show (if j = g then some (6 + 2 * i) else tag j) = some t
        rw [if_neg (by omega)]; exact ht
  refine ⟨tag', ⟨fun j hj => (ht1 j (Nat.lt_of_lt_of_le hj h.bsz)).trans (h.low j hj), ht3, Nat.le_trans h.bsz hf.size, (hk _ _ h.dt (by omega) (by omega)).trans h.d0, ht4 _ _ h.dt, h.self, ?_, fun g hg => ht4 _ _ (h.txtT g hg), ?_, fun g hg => ht4 _ _ (h.idxT g hg), ?_, ?_, ?_⟩, ⟨hf.os, hf.tape, hf.output, hf.size, ht1, hkn⟩⟩
  · exact ownsRowF_same h.txt (fun g hg => hk _ _ (h.txtT g hg) (by omega) (by omega))
  · rw [hfst]; exact ownsRow_same h.idx (fun g hg => hk _ _ (h.idxT g hg) (by omega) (by omega))
  · rcases h.mp with ⟨_, h'⟩ | ⟨bm, es, clock, e1, e2, e3, e4⟩
    · rw [h'] at hik; simp [firsts] at hik
    · exact .inr ⟨bm, es, clock, e1, ht4 _ _ e2, (hk _ _ e2 (by omega) (by omega)).trans e3, by rw [hfst]; exact e4⟩
  · exact h.use.move ht4 (fun j hj => hk _ _ hj (by omega) (by omega))
  · intro i' k' hik'
    rw [hfst] at hik'
    by_cases hi : i' = i
    · subst hi
      rw [hik] at hik'
      obtain rfl := Option.some.inj hik'
      exact ⟨ht4 _ _ hbt, q', u', hd, hq, htx, ht2⟩
    · have hkk : k' ≠ k := by
        intro e
        subst e
        exact hi (nodup_inj (firsts_nodup fs) hik' hik)
      obtain ⟨o1, o2, o3, o4⟩ := hoth k' hkk
      exact (h.calls i' k' hik').move ht4 (fun j hj => hk _ _ hj (by omega) (by omega)) (fun j hj => hk _ _ hj (by omega) (by omega)) o1 o2 o3 o4
end
end Go.Proofs.Qxb6605202a
