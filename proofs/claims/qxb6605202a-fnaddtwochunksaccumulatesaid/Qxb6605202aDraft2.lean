import Derived.Test.Qxb6605202aDraft
namespace Go.Proofs.Qxb6605202a
open Go.RowKit

theorem firstOf_same (g : Frag → ByteArray) (k : Int) (fs : List Frag) (f : Frag) (h : f.k = k → g f = E) : firstOf g k (fs ++ [f]) = firstOf g k fs := by
  rw [firstOf_snoc]
  split
  · rename_i e; rw [h e, set1_E]
  · rfl
theorem catOf_same (k : Int) (fs : List Frag) (f : Frag) (h : f.k = k → f.ar = E) : catOf k (fs ++ [f]) = catOf k fs := by
  rw [catOf_snoc]
  split
  · rename_i e; rw [h e]; simp [E]
  · simp
theorem firsts_swap (fs : List Frag) (f g : Frag) (h : f.k = g.k) : firsts (fs ++ [f]) = firsts (fs ++ [g]) := by rw [firsts_snoc, firsts_snoc, h]
theorem other_swap (fs : List Frag) (f g : Frag) {k : Int} (hf : f.k = k) (hg : g.k = k) : ∀ k', k' ≠ k → firstOf (·.id) k' (fs ++ [f]) = firstOf (·.id) k' (fs ++ [g]) ∧ firstOf (·.ty) k' (fs ++ [f]) = firstOf (·.ty) k' (fs ++ [g]) ∧ firstOf (·.nm) k' (fs ++ [f]) = firstOf (·.nm) k' (fs ++ [g]) ∧ catOf k' (fs ++ [f]) = catOf k' (fs ++ [g]) := by
  intro k' hk
  have h1 : ¬ f.k = k' := fun e => hk (e.symm.trans hf)
  have h2 : ¬ g.k = k' := fun e => hk (e.symm.trans hg)
  simp only [firstOf_snoc, catOf_snoc, if_neg h1, if_neg h2, and_self]

theorem getElem?_snoc {l : List Int} {k x : Int} {i : Nat} (h : (l ++ [x])[i]? = some k) : l[i]? = some k ∨ (i = l.length ∧ k = x) := by
  by_cases hi : i < l.length
  · rw [List.getElem?_append_left hi] at h; exact .inl h
  · have h' := (List.getElem?_eq_some_iff.1 h).1
    simp at h'
    obtain rfl : i = l.length := by omega
    simp at h
    exact .inr ⟨rfl, h.symm⟩

section
variable {base : Nat} {w w' : World} {d : Nat} {text : List UInt8} {fin : ByteArray} {us : Option (Int × Int)} {fs fs' : List Frag} {tag tag' : Nat → Option Nat} {p v iv : Value} {up : Option Addr} {m : Option Nat} {blk : Nat → Nat}

/-- Another cell of the draft's own block is written; new blocks may be there; one of them may become a part. -/
theorem DraftAt.fin_ (h : DraftAt base w d text fin us fs tag p v iv up m blk) {fin' : ByteArray} (hd : w'.heap[d]? = some (.cells #[p, v, .string fin', .pointer up, .map m, iv] 40 (0, 0))) (hf : Fr w w' d none) :
    DraftAt base w' d text fin' us fs tag p v iv up m blk ∧ Step tag tag w w' := by
  have hk : ∀ j t, tag j = some t → t ≠ 0 → w'.heap[j]? = w.heap[j]? := fun j t ht h0 => hf.block j (tag_lt h.sup ht) (fun e => by rw [e, h.dt] at ht; exact h0 (Option.some.inj ht).symm) (by simp)
  refine ⟨⟨h.low, fun j hj => h.sup j (Nat.le_trans hf.size hj), Nat.le_trans h.bsz hf.size, hd, h.dt, h.self, ?_, h.txtT, ?_, h.idxT, ?_, ?_, ?_⟩, ⟨hf.os, hf.tape, hf.output, hf.size, fun _ _ => rfl, fun j hj ht => hf.block j hj (fun e => by rw [e, h.dt] at ht; cases ht) (by simp)⟩⟩
  · exact ownsRowF_same h.txt (fun g hg => hk _ _ (h.txtT g hg) (by omega))
  · exact ownsRow_same h.idx (fun g hg => hk _ _ (h.idxT g hg) (by omega))
  · rcases h.mp with h' | ⟨bm, es, clock, e1, e2, e3, e4⟩
    · exact .inl h'
    · exact .inr ⟨bm, es, clock, e1, e2, (hk _ _ e2 (by omega)).trans e3, e4⟩
  · exact h.use.move (fun _ _ h => h) (fun j hj => hk _ _ hj (by omega))
  · exact fun i k hik => (h.calls i k hik).move (fun _ _ h => h) (fun j hj => hk _ _ hj (by omega)) (fun j hj => hk _ _ hj (by omega)) rfl rfl rfl rfl

/-- The draft's usage becomes what lies in a new block. -/
theorem DraftAt.usage (h : DraftAt base w d text fin us fs tag p v iv up m blk) {bu : Nat} {a c : Int} (hd : w'.heap[d]? = some (.cells #[p, v, .string fin, .pointer (some ⟨bu, 0, none⟩), .map m, iv] 40 (0, 0))) (hbu : w.heap.size ≤ bu) (hb : w'.heap[bu]? = some (.cells #[.int .i64 a, .int .i64 c] 79 (0, 0))) (hf : Fr w w' d none) :
    ∃ tag', DraftAt base w' d text fin (some (a, c)) fs tag' p v iv (some ⟨bu, 0, none⟩) m blk ∧ Step tag tag' w w' := by
  have hk : ∀ j t, tag j = some t → t ≠ 0 → w'.heap[j]? = w.heap[j]? := fun j t ht h0 => hf.block j (tag_lt h.sup ht) (fun e => by rw [e, h.dt] at ht; exact h0 (Option.some.inj ht).symm) (by simp)
  have hlt := lt_block hb
  have ht4 : ∀ j t, tag j = some t → (fun j => if j = bu then some 4 else tag j) j = some t := fun j t ht => by
    have := tag_lt h.sup ht
    show (if j = bu then some 4 else tag j) = some t
    rw [if_neg (by omega)]; exact ht
  refine ⟨fun j => if j = bu then some 4 else tag j, ⟨fun j hj => ?_, fun j hj => ?_, Nat.le_trans h.bsz hf.size, hd, ht4 _ _ h.dt, h.self, ?_, fun g hg => ht4 _ _ (h.txtT g hg), ?_, fun g hg => ht4 _ _ (h.idxT g hg), ?_, .inr ⟨bu, a, c, rfl, rfl, if_pos rfl, hb⟩, ?_⟩, ⟨hf.os, hf.tape, hf.output, hf.size, fun j hj => if_neg (by omega), fun j hj ht => hf.block j hj (fun e => by rw [e, h.dt] at ht; cases ht) (by simp)⟩⟩
  · have := h.bsz
    show (if j = bu then some 4 else tag j) = none
    rw [if_neg (by omega)]; exact h.low j hj
  · show (if j = bu then some 4 else tag j) = none
    rw [if_neg (by omega)]; exact h.sup j (Nat.le_trans hf.size hj)
  · exact ownsRowF_same h.txt (fun g hg => hk _ _ (h.txtT g hg) (by omega))
  · exact ownsRow_same h.idx (fun g hg => hk _ _ (h.idxT g hg) (by omega))
  · rcases h.mp with h' | ⟨bm, es, clock, e1, e2, e3, e4⟩
    · exact .inl h'
    · exact .inr ⟨bm, es, clock, e1, ht4 _ _ e2, (hk _ _ e2 (by omega)).trans e3, e4⟩
  · exact fun i k hik => (h.calls i k hik).move ht4 (fun j hj => hk _ _ hj (by omega)) (fun j hj => hk _ _ hj (by omega)) rfl rfl rfl rfl

/-- The map is made. -/
theorem DraftAt.mkmap (h : DraftAt base w d text fin us [] tag p v iv up none blk) {bm : Nat} (hd : w'.heap[d]? = some (.cells #[p, v, .string fin, .pointer up, .map (some bm), iv] 40 (0, 0))) (hbm : w.heap.size ≤ bm) (hb : w'.heap[bm]? = some (.map #[] 0)) (hf : Fr w w' d none) :
    ∃ tag', DraftAt base w' d text fin us [] tag' p v iv up (some bm) blk ∧ Step tag tag' w w' := by
  have hk : ∀ j t, tag j = some t → t ≠ 0 → w'.heap[j]? = w.heap[j]? := fun j t ht h0 => hf.block j (tag_lt h.sup ht) (fun e => by rw [e, h.dt] at ht; exact h0 (Option.some.inj ht).symm) (by simp)
  have hlt := lt_block hb
  have ht4 : ∀ j t, tag j = some t → (fun j => if j = bm then some 2 else tag j) j = some t := fun j t ht => by
    have := tag_lt h.sup ht
    show (if j = bm then some 2 else tag j) = some t
    rw [if_neg (by omega)]; exact ht
  refine ⟨fun j => if j = bm then some 2 else tag j, ⟨fun j hj => ?_, fun j hj => ?_, Nat.le_trans h.bsz hf.size, hd, ht4 _ _ h.dt, h.self, ?_, fun g hg => ht4 _ _ (h.txtT g hg), ?_, fun g hg => ht4 _ _ (h.idxT g hg), .inr ⟨bm, #[], 0, rfl, if_pos rfl, hb, ⟨rfl, fun i k hik => by simp [firsts] at hik⟩⟩, ?_, fun i k hik => by simp [firsts] at hik⟩, ⟨hf.os, hf.tape, hf.output, hf.size, fun j hj => if_neg (by omega), fun j hj ht => hf.block j hj (fun e => by rw [e, h.dt] at ht; cases ht) (by simp)⟩⟩
  · have := h.bsz
    show (if j = bm then some 2 else tag j) = none
    rw [if_neg (by omega)]; exact h.low j hj
  · show (if j = bm then some 2 else tag j) = none
    rw [if_neg (by omega)]; exact h.sup j (Nat.le_trans hf.size hj)
  · exact ownsRowF_same h.txt (fun g hg => hk _ _ (h.txtT g hg) (by omega))
  · exact ownsRow_same h.idx (fun g hg => hk _ _ (h.idxT g hg) (by omega))
  · exact h.use.move ht4 (fun j hj => hk _ _ hj (by omega))

/-- The empty fragment of key k. -/
def f0 (k : Int) : Frag := ⟨k, E, E, E, E⟩

/-- A key that is there: the empty fragment changes nothing. -/
theorem DraftAt.old (h : DraftAt base w d text fin us fs tag p v iv up m blk) {k : Int} (hk : k ∈ firsts fs) : DraftAt base w d text fin us (fs ++ [f0 k]) tag p v iv up m blk := by
  have e1 : firsts (fs ++ [f0 k]) = firsts fs := by rw [firsts_snoc, if_pos (by exact hk)]
  have e2 : ∀ (g : Frag → ByteArray) k', g (f0 k) = E → firstOf g k' (fs ++ [f0 k]) = firstOf g k' fs := fun g k' hg => firstOf_same g k' fs _ (fun _ => hg)
  have e3 : ∀ k', catOf k' (fs ++ [f0 k]) = catOf k' fs := fun k' => catOf_same k' fs _ (fun _ => rfl)
  refine ⟨h.low, h.sup, h.bsz, h.d0, h.dt, h.self, h.txt, h.txtT, by rw [e1]; exact h.idx, h.idxT, ?_, h.use, ?_⟩
  · rcases h.mp with ⟨_, h'⟩ | ⟨bm, es, clock, a1, a2, a3, a4⟩
    · rw [h'] at hk; simp [firsts] at hk
    · exact .inr ⟨bm, es, clock, a1, a2, a3, by rw [e1]; exact a4⟩
  · intro i k' hik
    rw [e1] at hik
    exact (h.calls i k' hik).move (fun _ _ h => h) (fun _ _ => rfl) (fun _ _ => rfl) (e2 _ _ rfl) (e2 _ _ rfl) (e2 _ _ rfl) (e3 _)

/-- A new key: its call is boxed, put into the map, and the key appended. -/
theorem DraftAt.new (h : DraftAt base w d text fin us fs tag p v iv up m blk) {k : Int} (hk : k ∉ firsts fs) {bm clock C : Nat} {es : Array MapEntry} {iv' : Value} (hm : m = some bm) (hmt : tag bm = some 2) (hes : Ents es (firsts fs) blk)
    (hd : w'.heap[d]? = some (.cells #[p, v, .string fin, .pointer up, .map m, iv'] 40 (0, 0))) (hmap : w'.heap[bm]? = some (.map (es.push { key := .int .i64 k, val := .pointer (some ⟨C, 0, none⟩), born := clock }) (clock + 1)))
    (hC : w.heap.size ≤ C) (hCb : w'.heap[C]? = some (.cells #[.string E, .string E, .string E, .string E, .pointer none, .slice none 0 0] 75 (0, 0)))
    (hiv : w'.ownsRow base 3 1 iv' ((firsts fs).length + 1) ((firsts fs).map (Value.int .i64) ++ [.int .i64 k])) (hlie : iv'.ownBlock = iv.ownBlock ∨ ∃ g, iv'.ownBlock = some g ∧ w.heap.size ≤ g) (hgC : iv'.ownBlock ≠ some C)
    (hos : w'.os = w.os) (htape : w'.tape = w.tape) (hout : w'.output = w.output) (hsz : w.heap.size ≤ w'.heap.size) (hf : ∀ j, j < w.heap.size → j ≠ d → j ≠ bm → some j ≠ iv.ownBlock → w'.heap[j]? = w.heap[j]?) :
    ∃ tag', DraftAt base w' d text fin us (fs ++ [f0 k]) tag' p v iv' up m (fun j => if j = (firsts fs).length then C else blk j) ∧ Step tag tag' w w' := by
  have e1 : firsts (fs ++ [f0 k]) = firsts fs ++ [k] := by rw [firsts_snoc, if_neg (by exact hk)]; rfl
  have e2 : ∀ (g : Frag → ByteArray) k', g (f0 k) = E → firstOf g k' (fs ++ [f0 k]) = firstOf g k' fs := fun g k' hg => firstOf_same g k' fs _ (fun _ => hg)
  have e3 : ∀ k', catOf k' (fs ++ [f0 k]) = catOf k' fs := fun k' => catOf_same k' fs _ (fun _ => rfl)
  have hno : ∀ f ∈ fs, f.k ≠ k := fun f hf' e => hk ((mem_firsts fs k).2 ⟨f, hf', e⟩)
  have z1 : ∀ g : Frag → ByteArray, firstOf g k fs = E := fun g => by
    unfold firstOf
    have : ∀ (l : List Frag) (a : ByteArray), (∀ f ∈ l, f.k ≠ k) → l.foldl (fun a f => if f.k = k then set1 a (g f) else a) a = a := by
      intro l
      induction l with
      | nil => intros; rfl
      | cons f l ih => intro a hl; rw [List.foldl_cons, if_neg (hl f (by simp))]; exact ih a (fun f' hf' => hl f' (by simp [hf']))
    exact this fs E hno
  have z2 : catOf k fs = [] := by
    unfold catOf
    rw [List.flatMap_eq_nil_iff]
    intro f hf'
    rw [if_neg (hno f hf')]
  have hkk : ∀ j t, tag j = some t → t ≠ 0 → t ≠ 2 → t ≠ 3 → w'.heap[j]? = w.heap[j]? := fun j t ht h0 h2 h3 => hf j (tag_lt h.sup ht) (fun e => by rw [e, h.dt] at ht; exact h0 (Option.some.inj ht).symm) (fun e => by rw [e, hmt] at ht; exact h2 (Option.some.inj ht).symm) (fun e => by rw [h.idxT j e.symm] at ht; exact h3 (Option.some.inj ht).symm)
  have hkn : ∀ j, j < w.heap.size → tag j = none → w'.heap[j]? = w.heap[j]? := fun j hj ht => hf j hj (fun e => by rw [e, h.dt] at ht; cases ht) (fun e => by rw [e, hmt] at ht; cases ht) (fun e => by rw [h.idxT j e.symm] at ht; cases ht)
  have hClt := lt_block hCb
  obtain ⟨tag', ht1, ht2, ht3, ht4, ht5⟩ : ∃ tag' : Nat → Option Nat, (∀ j, j < w.heap.size → tag' j = tag j) ∧ (∀ g, iv'.ownBlock = some g → tag' g = some 3) ∧ (∀ j, w'.heap.size ≤ j → tag' j = none) ∧ (∀ j t, tag j = some t → tag' j = some t) ∧ tag' C = some (5 + 2 * (firsts fs).length) := by
    have base1 : ∀ j t, tag j = some t → j ≠ C := fun j t ht e => by have := tag_lt h.sup ht; omega
    rcases hlie with hl | ⟨g, hl, hg⟩
    · refine ⟨fun j => if j = C then some (5 + 2 * (firsts fs).length) else tag j, fun j hj => if_neg (by omega), fun g hg => ?_, fun j hj => ?_, fun j t ht => (if_neg (base1 j t ht)).trans ht, if_pos rfl⟩
      · have hg3 := h.idxT g (by rw [← hl]; exact hg)
        exact (if_neg (base1 g 3 hg3)).trans hg3
      · exact (if_neg (by omega)).trans (h.sup j (Nat.le_trans hsz hj))
    · have hgne : g ≠ C := fun e => hgC (by rw [hl, e])
      have hglt := (hiv.lt g hl).2
      refine ⟨fun j => if j = C then some (5 + 2 * (firsts fs).length) else if j = g then some 3 else tag j, fun j hj => ?_, fun g' hg' => ?_, fun j hj => ?_, fun j t ht => ?_, if_pos rfl⟩
      · exact (if_neg (by omega)).trans (if_neg (by omega))
      · rw [hl] at hg'; obtain rfl := Option.some.inj hg'; exact (if_neg hgne).trans (if_pos rfl)
      · exact (if_neg (by omega)).trans ((if_neg (by omega)).trans (h.sup j (Nat.le_trans hsz hj)))
      · have := tag_lt h.sup ht
        exact (if_neg (base1 j t ht)).trans ((if_neg (by omega)).trans ht)
  have hlen : (firsts (fs ++ [f0 k])).length = (firsts fs).length + 1 := by rw [e1]; simp
  refine ⟨tag', ⟨fun j hj => (ht1 j (Nat.lt_of_lt_of_le hj h.bsz)).trans (h.low j hj), ht3, Nat.le_trans h.bsz hsz, hd, ht4 _ _ h.dt, h.self, ?_, fun g hg => ht4 _ _ (h.txtT g hg), ?_, ht2, ?_, ?_, ?_⟩, ⟨hos, htape, hout, hsz, ht1, hkn⟩⟩
  · exact ownsRowF_same h.txt (fun g hg => hkk _ _ (h.txtT g hg) (by omega) (by omega) (by omega))
  · rw [hlen, e1, List.map_append]; exact hiv
  · refine .inr ⟨bm, _, clock + 1, hm, ht4 _ _ hmt, hmap, ?_, ?_⟩
    · rw [Array.size_push, hes.1, hlen]
    · intro i k' hik
      rw [e1] at hik
      rcases getElem?_snoc hik with hi | ⟨hi, hk'⟩
      · obtain ⟨e, a1, a2, a3⟩ := hes.2 i k' hi
        have hlt := (List.getElem?_eq_some_iff.1 hi).1
        refine ⟨e, ?_, a2, ?_⟩
        · rw [Array.getElem?_push, if_neg (by rw [hes.1]; omega)]; exact a1
        · rw [a3]; show _ = Value.pointer (some ⟨if i = (firsts fs).length then C else blk i, 0, none⟩); rw [if_neg (by omega)]
      · refine ⟨{ key := .int .i64 k, val := .pointer (some ⟨C, 0, none⟩), born := clock }, ?_, by rw [hk'], ?_⟩
        · rw [Array.getElem?_push, if_pos (by rw [hes.1]; exact hi)]
        · show _ = Value.pointer (some ⟨if i = (firsts fs).length then C else blk i, 0, none⟩); rw [if_pos hi]
  · exact h.use.move ht4 (fun j hj => hkk _ _ hj (by omega) (by omega) (by omega))
  · intro i k' hik
    rw [e1] at hik
    rcases getElem?_snoc hik with hi | ⟨hi, hk'⟩
    · have hlt := (List.getElem?_eq_some_iff.1 hi).1
      have := (h.calls i k' hi).move (fs' := fs ++ [f0 k]) ht4 (fun j hj => hkk _ _ hj (by omega) (by omega) (by omega)) (fun j hj => hkk _ _ hj (by omega) (by omega) (by omega)) (e2 _ _ rfl) (e2 _ _ rfl) (e2 _ _ rfl) (e3 _)
      show CallAt base w' tag' k' (fs ++ [f0 k]) (if i = (firsts fs).length then C else blk i) i
      rw [if_neg (by omega)]
      exact this
    · show CallAt base w' tag' k' (fs ++ [f0 k]) (if i = (firsts fs).length then C else blk i) i
      rw [if_pos hi, hk', hi]
      refine ⟨ht5, .pointer none, .slice none 0 0, ?_, .inl rfl, ?_, fun g hg => by simp [Value.ownBlock] at hg⟩
      · rw [e2 _ _ rfl, e2 _ _ rfl, e2 _ _ rfl, z1, z1, z1]; exact hCb
      · rw [e3, z2]; exact World.ownsRowF_nil _ _ _ _
end
end Go.Proofs.Qxb6605202a
