/-
  THE PLAIN MATHEMATICS: fragments of tool calls; what a draft holds behind them. No program.
-/
import Derived.Lib.Strings
namespace Go.Proofs.Qxb6605202a

/-- A fragment of a tool call. -/
structure Frag where
  k : Int
  id : ByteArray
  ty : ByteArray
  nm : ByteArray
  ar : ByteArray

def E : ByteArray := ⟨#[]⟩

/-- 'setOnce': the first that is not empty stays. -/
def set1 (a b : ByteArray) : ByteArray := if a.toList.isEmpty then b else a

def firstOf (g : Frag → ByteArray) (k : Int) (fs : List Frag) : ByteArray := fs.foldl (fun a f => if f.k = k then set1 a (g f) else a) E
def catOf (k : Int) (fs : List Frag) : List UInt8 := fs.flatMap fun f => if f.k = k then f.ar.data.toList else []
/-- The keys, in the order of their first appearance. -/
def firsts (fs : List Frag) : List Int := fs.foldl (fun acc f => if f.k ∈ acc then acc else acc ++ [f.k]) []

theorem snoc_ind {α : Type} {P : List α → Prop} (h0 : P []) (h1 : ∀ l a, P l → P (l ++ [a])) (l : List α) : P l := by
  have h : ∀ l : List α, P l.reverse := by
    intro l
    induction l with
    | nil => exact h0
    | cons a l ih => rw [List.reverse_cons]; exact h1 _ _ ih
  rw [← List.reverse_reverse l]
  exact h _

theorem firstOf_snoc (g : Frag → ByteArray) (k : Int) (fs : List Frag) (f : Frag) : firstOf g k (fs ++ [f]) = if f.k = k then set1 (firstOf g k fs) (g f) else firstOf g k fs := by
  simp [firstOf, List.foldl_append]
theorem catOf_snoc (k : Int) (fs : List Frag) (f : Frag) : catOf k (fs ++ [f]) = catOf k fs ++ if f.k = k then f.ar.data.toList else [] := by
  simp [catOf]
theorem firsts_snoc (fs : List Frag) (f : Frag) : firsts (fs ++ [f]) = if f.k ∈ firsts fs then firsts fs else firsts fs ++ [f.k] := by
  unfold firsts
  rw [List.foldl_append]
  rfl

theorem mem_firsts (fs : List Frag) (k : Int) : k ∈ firsts fs ↔ ∃ f ∈ fs, f.k = k := by
  induction fs using snoc_ind with
  | h0 => simp [firsts]
  | h1 fs f ih =>
    rw [firsts_snoc]
    by_cases h : f.k ∈ firsts fs
    · rw [if_pos h, ih]
      constructor
      · rintro ⟨g, hg, e⟩; exact ⟨g, List.mem_append_left _ hg, e⟩
      · rintro ⟨g, hg, e⟩
        rcases List.mem_append.1 hg with hg | hg
        · exact ⟨g, hg, e⟩
        · rw [List.mem_singleton.1 hg] at e; exact ih.1 (e ▸ h)
    · rw [if_neg h, List.mem_append, ih]
      constructor
      · rintro (⟨g, hg, e⟩ | e)
        · exact ⟨g, List.mem_append_left _ hg, e⟩
        · exact ⟨f, by simp, (List.mem_singleton.1 e).symm⟩
      · rintro ⟨g, hg, e⟩
        rcases List.mem_append.1 hg with hg | hg
        · exact .inl ⟨g, hg, e⟩
        · rw [List.mem_singleton.1 hg] at e; exact .inr (by simp [e])

theorem firsts_nodup (fs : List Frag) : (firsts fs).Nodup := by
  induction fs using snoc_ind with
  | h0 => simp [firsts]
  | h1 fs f ih =>
    rw [firsts_snoc]
    split
    · exact ih
    · rename_i h
      rw [List.nodup_append]
      exact ⟨ih, by simp, fun a ha b hb e => by rw [List.mem_singleton.1 hb] at e; exact h (e ▸ ha)⟩

theorem firsts_length_le (fs : List Frag) : (firsts fs).length ≤ fs.length := by
  induction fs using snoc_ind with
  | h0 => simp [firsts]
  | h1 fs f ih =>
    rw [firsts_snoc]
    split
    · simp; omega
    · simp; omega

theorem set1_E (a : ByteArray) : set1 a E = a := by
  unfold set1
  split
  · rename_i h
    rw [Lib.toList_data] at h
    have : a.data.toList = [] := by simpa using h
    have h2 : a.data = #[] := Array.toList_inj.1 (by simpa using this)
    cases a
    simp_all [E]
  · rfl

/-! ### sums of lengths -/
def tot (ss : List ByteArray) : Nat := (ss.map ByteArray.size).sum
theorem tot_snoc (ss : List ByteArray) (k : Nat) (hk : k < ss.length) : tot (ss.take (k + 1)) = tot (ss.take k) + (ss.getD k ByteArray.empty).size := by
  unfold tot
  rw [List.take_succ_eq_append_getElem hk, List.map_append, List.sum_append, List.map_cons, List.map_nil, List.sum_cons, List.sum_nil, Nat.add_zero, List.getD_eq_getElem?_getD, List.getElem?_eq_getElem hk]
  rfl

end Go.Proofs.Qxb6605202a
