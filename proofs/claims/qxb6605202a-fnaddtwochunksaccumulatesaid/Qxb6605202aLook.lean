import Derived.Test.Qxb6605202aDraft2
namespace Go.Proofs.Qxb6605202a
open Go.RowKit

theorem find_hit (k : Int) : ∀ (l : List MapEntry) (o i : Nat) (e : MapEntry), l[i]? = some e → e.key = .int .i64 k → (∀ j e', j < i → l[j]? = some e' → ∃ k', e'.key = .int .i64 k' ∧ k' ≠ k) →
    Instr.findNow (.int .i64) (.int .i64 k) l o = some (some (o + i, e.val))
  | [], _, _, _, h, _, _ => by simp at h
  | x :: l, o, 0, e, h, hk, _ => by
    simp at h
    subst h
    have : Instr.sameNow (.int .i64) (.int .i64 k) x.key = some true := by rw [hk]; simp [Instr.sameNow]
    simp only [Instr.findNow, this, Nat.add_zero]
  | x :: l, o, i + 1, e, h, hk, hn => by
    obtain ⟨k', h1, h2⟩ := hn 0 x (by omega) (by simp)
    have : Instr.sameNow (.int .i64) (.int .i64 k) x.key = some false := by rw [h1]; simp [Instr.sameNow, Ne.symm h2]
    simp only [Instr.findNow, this]
    rw [find_hit k l (o + 1) i e (by simpa using h) hk (fun j e' hj he => hn (j + 1) e' (by omega) (by simpa using he))]
    simp only [Option.some.injEq, Prod.mk.injEq, and_true]
    omega

theorem find_miss (k : Int) : ∀ (l : List MapEntry) (o : Nat), (∀ e ∈ l, ∃ k', e.key = .int .i64 k' ∧ k' ≠ k) → Instr.findNow (.int .i64) (.int .i64 k) l o = some none
  | [], _, _ => rfl
  | x :: l, o, h => by
    obtain ⟨k', h1, h2⟩ := h x (by simp)
    have : Instr.sameNow (.int .i64) (.int .i64 k) x.key = some false := by rw [h1]; simp [Instr.sameNow, Ne.symm h2]
    simp only [Instr.findNow, this]
    exact find_miss k l (o + 1) (fun e he => h e (by simp [he]))


section
variable {w : World} {bm clock : Nat} {es : Array MapEntry} {keys : List Int} {blk : Nat → Nat} {k : Int}

theorem check38 (b : Bool) (k : Int) (w : World) : (Instr.checkKey b 10000 3 (.int .i64 k)).run Try.prog w = .ok () w := MapKept.run_checkKey (k := .int .i64 k) Try.underlying3 (by simp [MapKept.IsKey]) b 9999

theorem ents_miss (hE : Ents es keys blk) (hk : k ∉ keys) : Instr.findNow (.int .i64) (.int .i64 k) es.toList 0 = some none := by
  refine find_miss k _ 0 (fun e he => ?_)
  obtain ⟨i, hi, rfl⟩ := List.mem_iff_getElem.1 he
  have hi' : i < keys.length := by rw [← hE.1]; simpa using hi
  obtain ⟨e', a1, a2, _⟩ := hE.2 i keys[i] (List.getElem?_eq_getElem hi')
  have : es.toList[i] = e' := by
    have h2 : es[i]? = some es.toList[i] := by rw [← Array.getElem?_toList, List.getElem?_eq_getElem hi]
    rw [h2] at a1
    exact Option.some.inj a1
  rw [this]
  exact ⟨keys[i], a2, fun e => hk (e ▸ List.getElem_mem hi')⟩

theorem look_hit (hb : w.heap[bm]? = some (.map es clock)) (hE : Ents es keys blk) (hnd : keys.Nodup) {i : Nat} (hik : keys[i]? = some k) :
    (Instr.lookup 38 (.map (some bm)) (.int .i64 k) false).run Try.prog w = .ok (.pointer (some ⟨blk i, 0, none⟩)) w := by
  obtain ⟨e, a1, a2, a3⟩ := hE.2 i k hik
  have hf := find_hit k es.toList 0 i e (by rw [Array.getElem?_toList]; exact a1) a2 (fun j e' hj he => by
    rw [Array.getElem?_toList] at he
    have hj' : j < keys.length := by have := (List.getElem?_eq_some_iff.1 hik).1; omega
    obtain ⟨e2, b1, b2, _⟩ := hE.2 j keys[j] (List.getElem?_eq_getElem hj')
    rw [b1] at he
    obtain rfl := Option.some.inj he
    exact ⟨keys[j], b2, fun e => by have := nodup_inj hnd (i := j) (j := i) (k := k) (by rw [List.getElem?_eq_getElem hj', e]) hik; omega⟩)
  rw [a3] at hf
  simp [Instr.lookup, run_underlying Try.underlying38, MapKept.run_getObj_map hb, check38, MapKept.run_findKey Try.underlying3 hf, Result.andThen]

theorem look_miss (hb : w.heap[bm]? = some (.map es clock)) (hE : Ents es keys blk) (hk : k ∉ keys) :
    (Instr.lookup 38 (.map (some bm)) (.int .i64 k) false).run Try.prog w = .ok (.pointer none) w := by
  simp [Instr.lookup, run_underlying Try.underlying38, MapKept.run_getObj_map hb, check38, MapKept.run_findKey Try.underlying3 (ents_miss hE hk), Result.andThen]

theorem upd_new (hb : w.heap[bm]? = some (.map es clock)) (hE : Ents es keys blk) (hk : k ∉ keys) (v : Value) :
    ∃ w', (Instr.mapUpdate 38 (.map (some bm)) (.int .i64 k) v).run Try.prog w = .ok () w' ∧ w'.heap[bm]? = some (.map (es.push { key := .int .i64 k, val := v, born := clock }) (clock + 1)) ∧ w.grownBy w' (some bm) := by
  refine ⟨{ w with heap := w.heap.setIfInBounds bm (.map (es.push { key := .int .i64 k, val := v, born := clock }) (clock + 1)) }, ?_, (MapKept.heap_set hb).1, ⟨rfl, rfl, rfl, by simp, fun i _ hi => (MapKept.heap_set hb).2 i (fun e => hi (by rw [e]))⟩⟩
  simp [Instr.mapUpdate, run_underlying Try.underlying38, MapKept.run_getObj_map hb, check38, MapKept.run_findKey Try.underlying3 (ents_miss hE hk), MapKept.run_setObj_map _ hb, Result.andThen]
end

section
variable {base : Nat} {w w' : World} {d : Nat} {text : List UInt8} {fin : ByteArray} {us : Option (Int × Int)} {X : List Frag} {tag tag' : Nat → Option Nat} {p v iv : Value} {up : Option Addr} {m : Option Nat} {blk : Nat → Nat} {k : Int} {a b c r a' b' c' r' : ByteArray} {i : Nat}

theorem snoc_id : firstOf (·.id) k (X ++ [⟨k, a, b, c, r⟩]) = set1 (firstOf (·.id) k X) a := by rw [firstOf_snoc, if_pos rfl]
theorem snoc_ty : firstOf (·.ty) k (X ++ [⟨k, a, b, c, r⟩]) = set1 (firstOf (·.ty) k X) b := by rw [firstOf_snoc, if_pos rfl]
theorem snoc_nm : firstOf (·.nm) k (X ++ [⟨k, a, b, c, r⟩]) = set1 (firstOf (·.nm) k X) c := by rw [firstOf_snoc, if_pos rfl]
theorem snoc_ar : catOf k (X ++ [⟨k, a, b, c, r⟩]) = catOf k X ++ r.data.toList := by rw [catOf_snoc, if_pos rfl]

/-- The call at hand, in the midst of a fragment. -/
theorem DraftAt.midst (D : DraftAt base w d text fin us (X ++ [⟨k, a, b, c, r⟩]) tag p v iv up m blk) (hi : (firsts (X ++ [⟨k, a, b, c, r⟩]))[i]? = some k) :
    ∃ q u, w.heap[blk i]? = some (.cells #[.string (set1 (firstOf (·.id) k X) a), .string (set1 (firstOf (·.ty) k X) b), .string (set1 (firstOf (·.nm) k X) c), .string E, q, u] 75 (0, 0)) ∧ (q = .pointer none ∨ q = .pointer (some ⟨blk i, 4, none⟩)) ∧
      w.ownsRowF base 5 1 u (catOf k X ++ r.data.toList).length (Lib.byteCells (catOf k X ++ r.data.toList)) ∧ (∀ g, u.ownBlock = some g → tag g = some (6 + 2 * i)) ∧ u.ownBlock ≠ some (blk i) := by
  obtain ⟨hbt, q, u, hc, hq, hown, hut⟩ := D.calls i k hi
  rw [snoc_id, snoc_ty, snoc_nm] at hc
  rw [snoc_ar] at hown
  refine ⟨q, u, hc, hq, hown, hut, fun e => ?_⟩
  rw [hut _ e] at hbt
  have := Option.some.inj hbt
  omega

theorem DraftAt.frag (D : DraftAt base w d text fin us (X ++ [⟨k, a, b, c, r⟩]) tag p v iv up m blk) (hi : (firsts (X ++ [⟨k, a, b, c, r⟩]))[i]? = some k) {q u q' u' : Value}
    (hc : w.heap[blk i]? = some (.cells #[.string (set1 (firstOf (·.id) k X) a), .string (set1 (firstOf (·.ty) k X) b), .string (set1 (firstOf (·.nm) k X) c), .string E, q, u] 75 (0, 0))) (hut : ∀ g, u.ownBlock = some g → tag g = some (6 + 2 * i))
    (hq : q' = .pointer none ∨ q' = .pointer (some ⟨blk i, 4, none⟩)) (hd : w'.heap[blk i]? = some (.cells #[.string (set1 (firstOf (·.id) k X) a'), .string (set1 (firstOf (·.ty) k X) b'), .string (set1 (firstOf (·.nm) k X) c'), .string E, q', u'] 75 (0, 0)))
    (htx : w'.ownsRowF base 5 1 u' (catOf k X ++ r'.data.toList).length (Lib.byteCells (catOf k X ++ r'.data.toList))) (hlie : u'.ownBlock = u.ownBlock ∨ ∃ g, u'.ownBlock = some g ∧ w.heap.size ≤ g) (hf : Fr w w' (blk i) u.ownBlock) :
    ∃ tag', DraftAt base w' d text fin us (X ++ [⟨k, a', b', c', r'⟩]) tag' p v iv up m blk ∧ Step tag tag' w w' := by
  refine D.onCall hi (firsts_swap X ⟨k, a', b', c', r'⟩ ⟨k, a, b, c, r⟩ rfl) (other_swap X _ _ rfl rfl) (q := q) (u := u) ?_ hut hq ?_ ?_ hlie hf
  · rw [snoc_id, snoc_ty, snoc_nm]; exact hc
  · rw [snoc_id, snoc_ty, snoc_nm]; exact hd
  · rw [snoc_ar]; exact htx

/-- setOnce has been called on one of the three. -/
theorem DraftAt.once (D : DraftAt base w d text fin us (X ++ [⟨k, a, b, c, r⟩]) tag p v iv up m blk) (hi : (firsts (X ++ [⟨k, a, b, c, r⟩]))[i]? = some k) {q u : Value}
    (hc : w.heap[blk i]? = some (.cells #[.string (set1 (firstOf (·.id) k X) a), .string (set1 (firstOf (·.ty) k X) b), .string (set1 (firstOf (·.nm) k X) c), .string E, q, u] 75 (0, 0))) (hq : q = .pointer none ∨ q = .pointer (some ⟨blk i, 4, none⟩)) (hown : w.ownsRowF base 5 1 u (catOf k X ++ r.data.toList).length (Lib.byteCells (catOf k X ++ r.data.toList)))
    (hut : ∀ g, u.ownBlock = some g → tag g = some (6 + 2 * i)) (hne : u.ownBlock ≠ some (blk i)) (hd : w'.heap[blk i]? = some (.cells #[.string (set1 (firstOf (·.id) k X) a'), .string (set1 (firstOf (·.ty) k X) b'), .string (set1 (firstOf (·.nm) k X) c'), .string E, q, u] 75 (0, 0))) (hf : Fr w w' (blk i) none) :
    ∃ tag', DraftAt base w' d text fin us (X ++ [⟨k, a', b', c', r⟩]) tag' p v iv up m blk ∧ Step tag tag' w w' :=
  D.frag hi hc hut hq hd (hown.kept (row := some (blk i)) ⟨hf.os, hf.tape, hf.output, hf.size, fun j hj h => hf.block j hj (fun e => h (by rw [e])) (by simp)⟩ (.inr hne)) (.inl rfl) ⟨hf.os, hf.tape, hf.output, hf.size, fun j hj h1 _ => hf.block j hj h1 (by simp)⟩
end
end Go.Proofs.Qxb6605202a
