import Derived.Test.Qxb6605202aW2
namespace Go.Proofs.Qxb6605202a

/-- The fragments of five lists. -/
def fr (zs : List Int) (a b c r : List ByteArray) (n : Nat) : List Frag := (List.range n).map fun j => ⟨zs.getD j 0, a.getD j ByteArray.empty, b.getD j ByteArray.empty, c.getD j ByteArray.empty, r.getD j ByteArray.empty⟩

section
variable {zs : List Int} {a b c r : List ByteArray} {n : Nat}

theorem fr_length : (fr zs a b c r n).length = n := by simp [fr]
theorem fr_at {j : Nat} (h : j < n) : (fr zs a b c r n)[j]? = some ⟨zs.getD j 0, a.getD j ByteArray.empty, b.getD j ByteArray.empty, c.getD j ByteArray.empty, r.getD j ByteArray.empty⟩ := by
  simp [fr, h]
theorem fr_drop {j : Nat} (h : j < n) : (fr zs a b c r n).drop j = ⟨zs.getD j 0, a.getD j ByteArray.empty, b.getD j ByteArray.empty, c.getD j ByteArray.empty, r.getD j ByteArray.empty⟩ :: (fr zs a b c r n).drop (j + 1) := by
  have hl : j < (fr zs a b c r n).length := by rw [fr_length]; exact h
  rw [List.drop_eq_getElem_cons hl]
  congr 1
  have := fr_at (zs := zs) (a := a) (b := b) (c := c) (r := r) h
  rw [List.getElem?_eq_getElem hl] at this
  exact Option.some.inj this

theorem fr_take {k : Nat} (h : k ≤ n) : (fr zs a b c r n).take k = fr zs a b c r k := by
  unfold fr
  rw [← List.map_take, List.take_range, Nat.min_eq_left h]

/-- Whether a key has been seen. -/
theorem seen_iff {k : Nat} (hk : k < n) (hz : zs.length = n) : seen zs k k = decide (zs.getD k 0 ∈ firsts ((fr zs a b c r n).take k)) := by
  rw [Bool.eq_iff_iff, decide_eq_true_eq, mem_firsts]
  unfold seen
  rw [List.any_eq_true]
  constructor
  · rintro ⟨x, hx, he⟩
    obtain ⟨i, hi, hix⟩ := List.mem_take_iff_getElem.1 hx
    have hi' : i < k := by omega
    refine ⟨⟨zs.getD i 0, a.getD i ByteArray.empty, b.getD i ByteArray.empty, c.getD i ByteArray.empty, r.getD i ByteArray.empty⟩, ?_, ?_⟩
    · rw [fr_take (by omega)]
      exact List.mem_of_getElem? (fr_at hi')
    · show zs.getD i 0 = zs.getD k 0
      have : x = zs.getD k 0 := by simpa using he
      rw [← this, ← hix]
      simp [List.getD, show i < zs.length by omega]
  · rintro ⟨f, hf, he⟩
    rw [fr_take (by omega)] at hf
    obtain ⟨i, hi⟩ := List.getElem?_of_mem hf
    have hik : i < k := by have := (List.getElem?_eq_some_iff.1 hi).1; rwa [fr_length] at this
    rw [fr_at hik] at hi
    have hfk : f.k = zs.getD i 0 := by rw [← Option.some.inj hi]
    refine ⟨zs[i]'(by omega), List.mem_take_iff_getElem.2 ⟨i, by omega, rfl⟩, ?_⟩
    have : zs[i]'(by omega) = zs.getD i 0 := by simp [List.getD, show i < zs.length by omega]
    rw [this, ← hfk, he]
    simp

theorem set1_set1 (x s t : ByteArray) : set1 (set1 x s) t = set1 x (set1 s t) := by
  unfold set1
  by_cases h : x.toList.isEmpty = true
  · simp [h]
  · simp [h]

theorem fold_first (g : Frag → ByteArray) (ss : List ByteArray) (x : Int) (hg : ∀ j, j < n → ∀ f, (fr zs a b c r n)[j]? = some f → g f = ss.getD j ByteArray.empty) :
    ∀ (d m : Nat) (acc : ByteArray), m + d = n → ((fr zs a b c r n).drop m).foldl (fun acc f => if f.k = x then set1 acc (g f) else acc) acc = set1 acc (fstFrom zs ss x d m)
  | 0, m, acc, h => by
    rw [List.drop_eq_nil_of_le (by rw [fr_length]; omega)]
    exact (set1_E acc).symm
  | d + 1, m, acc, h => by
    have hm : m < n := by omega
    rw [fr_drop hm, List.foldl_cons, fold_first g ss x hg d (m + 1) _ (by omega)]
    have hgm := hg m hm _ (fr_at hm)
    rw [hgm]
    show set1 (if zs.getD m 0 = x then set1 acc (ss.getD m ByteArray.empty) else acc) _ = set1 acc (if zs.getD m 0 = x ∧ (ss.getD m ByteArray.empty).toList.isEmpty = false then ss.getD m ByteArray.empty else fstFrom zs ss x d (m + 1))
    by_cases h1 : zs.getD m 0 = x
    · rw [if_pos h1, set1_set1]
      congr 1
      unfold set1
      cases h2 : (ss.getD m ByteArray.empty).toList.isEmpty with
      | true => rw [if_pos rfl, if_neg (fun h => by cases h.2)]
      | false => rw [if_neg (by simp), if_pos ⟨h1, rfl⟩]
    · rw [if_neg h1, if_neg (fun h => h1 h.1)]

theorem set1_left (x : ByteArray) : set1 E x = x := by
  have : E.toList.isEmpty = true := by rw [Lib.toList_data]; rfl
  simp [set1, this]

theorem fold_none (g : Frag → ByteArray) (x : Int) : ∀ (l : List Frag) (acc : ByteArray), (∀ f ∈ l, f.k ≠ x) → l.foldl (fun acc f => if f.k = x then set1 acc (g f) else acc) acc = acc
  | [], _, _ => rfl
  | f :: l, acc, h => by rw [List.foldl_cons, if_neg (h f (by simp))]; exact fold_none g x l acc (fun f' hf' => h f' (by simp [hf']))

/-- Where a key comes first at k, the first that is not empty is found from there. -/
theorem first_from (g : Frag → ByteArray) (ss : List ByteArray) {k : Nat} (hk : k < n) (hnew : zs.getD k 0 ∉ firsts ((fr zs a b c r n).take k)) (hg : ∀ j, j < n → ∀ f, (fr zs a b c r n)[j]? = some f → g f = ss.getD j ByteArray.empty) :
    firstOf g (zs.getD k 0) (fr zs a b c r n) = fstFrom zs ss (zs.getD k 0) (n - k) k := by
  have h : firstOf g (zs.getD k 0) ((fr zs a b c r n).take k ++ (fr zs a b c r n).drop k) = fstFrom zs ss (zs.getD k 0) (n - k) k := by
    unfold firstOf
    rw [List.foldl_append, fold_none g _ _ _ (fun f hf e => hnew ((mem_firsts _ _).2 ⟨f, hf, e⟩)), fold_first g ss _ hg (n - k) k E (by omega), set1_left]
  rwa [List.take_append_drop] at h

theorem cat_drop (x : Int) : ∀ (d m : Nat), m + d = n → catOf x ((fr zs a b c r n).drop m) = catFrom zs r x d m
  | 0, m, h => by rw [List.drop_eq_nil_of_le (by rw [fr_length]; omega)]; rfl
  | d + 1, m, h => by
    have hm : m < n := by omega
    rw [fr_drop hm]
    show (if zs.getD m 0 = x then (r.getD m ByteArray.empty).data.toList else []) ++ catOf x _ = _
    rw [cat_drop x d (m + 1) (by omega)]
    rfl

theorem cat_from {k : Nat} (hk : k < n) (hnew : zs.getD k 0 ∉ firsts ((fr zs a b c r n).take k)) : catOf (zs.getD k 0) (fr zs a b c r n) = catFrom zs r (zs.getD k 0) (n - k) k := by
  suffices h : catOf (zs.getD k 0) ((fr zs a b c r n).take k ++ (fr zs a b c r n).drop k) = catFrom zs r (zs.getD k 0) (n - k) k by
    rwa [List.take_append_drop] at h
  unfold catOf
  rw [List.flatMap_append]
  have h0 : ((fr zs a b c r n).take k).flatMap (fun f => if f.k = zs.getD k 0 then f.ar.data.toList else []) = [] := by
    rw [List.flatMap_eq_nil_iff]
    intro f hf
    rw [if_neg (fun e => hnew ((mem_firsts _ _).2 ⟨f, hf, e⟩))]
  rw [h0, List.nil_append]
  exact cat_drop _ (n - k) k (by omega)
end

theorem firsts_append (l1 l2 : List Frag) : ∃ t, firsts (l1 ++ l2) = firsts l1 ++ t := by
  induction l2 using snoc_ind with
  | h0 => exact ⟨[], by simp⟩
  | h1 l f ih =>
    obtain ⟨t, ht⟩ := ih
    rw [← List.append_assoc, firsts_snoc, ht]
    split
    · exact ⟨t, rfl⟩
    · exact ⟨t ++ [f.k], by simp⟩

/-- The key that comes first at k stands at its place in the order. -/
theorem firsts_place {fs : List Frag} {k : Nat} {f : Frag} (hk : fs[k]? = some f) (hnew : f.k ∉ firsts (fs.take k)) : (firsts fs)[(firsts (fs.take k)).length]? = some f.k ∧ firsts (fs.take (k + 1)) = firsts (fs.take k) ++ [f.k] := by
  have h1 : fs.take (k + 1) = fs.take k ++ [f] := by rw [List.take_add_one, hk]; rfl
  have h2 : firsts (fs.take (k + 1)) = firsts (fs.take k) ++ [f.k] := by rw [h1, firsts_snoc, if_neg hnew]
  refine ⟨?_, h2⟩
  obtain ⟨t, ht⟩ := firsts_append (fs.take (k + 1)) (fs.drop (k + 1))
  rw [List.take_append_drop] at ht
  rw [ht, h2]
  simp

theorem firsts_old {fs : List Frag} {k : Nat} {f : Frag} (hk : fs[k]? = some f) (hold : f.k ∈ firsts (fs.take k)) : firsts (fs.take (k + 1)) = firsts (fs.take k) := by
  have h1 : fs.take (k + 1) = fs.take k ++ [f] := by rw [List.take_add_one, hk]; rfl
  rw [h1, firsts_snoc, if_pos hold]

theorem cat_le (k : Int) (l1 l2 : List Frag) : (catOf k l1).length ≤ (catOf k (l1 ++ l2)).length := by
  simp [catOf]

theorem cat_tot (k : Int) (zs : List Int) (a b c r : List ByteArray) : ∀ n, n ≤ r.length → (catOf k (fr zs a b c r n)).length ≤ tot (r.take n)
  | 0, _ => by simp [catOf, fr]
  | n + 1, h => by
    have e : fr zs a b c r (n + 1) = fr zs a b c r n ++ [⟨zs.getD n 0, a.getD n ByteArray.empty, b.getD n ByteArray.empty, c.getD n ByteArray.empty, r.getD n ByteArray.empty⟩] := by
      unfold fr
      rw [List.range_succ, List.map_append]; rfl
    rw [e, catOf_snoc, List.length_append, tot_snoc r n (by omega)]
    have ih := cat_tot k zs a b c r n (by omega)
    split
    · rw [← Lib.size_eq]; show _ + (r.getD n ByteArray.empty).size ≤ _; omega
    · simp; omega
end Go.Proofs.Qxb6605202a
