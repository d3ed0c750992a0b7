/-
  A SOUND CHUNK, with no Go in sight.
-/
namespace Go.Proofs.Qxb6605264a

def sumTo (f : Nat → Int) : Nat → Int
  | 0 => 0
  | k + 1 => sumTo f k + f k

/-- Place x lies in the room of record q. -/
def InRoom (at_ rm : Nat → Int) (q : Nat) (x : Int) : Prop := at_ q ≤ x ∧ x < at_ q + rm q
def Used (at_ rm : Nat → Int) (k : Nat) (x : Int) : Prop := ∃ q, q < k ∧ InRoom at_ rm q x

/-- The first k records. -/
structure Part (k : Nat) (at_ ln rm : Nat → Int) (en : Int) : Prop where
  lo : ∀ j, j < k → 0 ≤ at_ j
  hi : ∀ j, j < k → at_ j + rm j ≤ en
  fit : ∀ j, j < k → ln j ≤ rm j
  dis : ∀ j q x, j < k → q < k → j ≠ q → InRoom at_ rm j x → InRoom at_ rm q x → False

structure Sound (m : Nat) (at_ ln rm : Nat → Int) (L : Nat) (en de : Int) : Prop where
  e0 : 0 ≤ en
  eL : en ≤ L
  d0 : 0 ≤ de
  dE : de ≤ en
  part : Part m at_ ln rm en
  sum : sumTo rm m + de = en

theorem Part.zero (at_ ln rm : Nat → Int) (en : Int) : Part 0 at_ ln rm en := ⟨fun _ h => absurd h (by omega), fun _ h => absurd h (by omega), fun _ h => absurd h (by omega), fun _ _ _ h => absurd h (by omega)⟩

theorem Part.snoc {k : Nat} {at_ ln rm : Nat → Int} {en : Int} (h : Part k at_ ln rm en) (h0 : 0 ≤ at_ k) (h1 : at_ k + rm k ≤ en) (h2 : ln k ≤ rm k) (h3 : ∀ x, InRoom at_ rm k x → ¬ Used at_ rm k x) : Part (k + 1) at_ ln rm en := by
  have part : ∀ j, j < k + 1 → j = k ∨ j < k := fun j hj => by omega
  refine ⟨fun j hj => ?_, fun j hj => ?_, fun j hj => ?_, fun j q x hj hq hne hx hy => ?_⟩
  · rcases part j hj with rfl | hj
    · exact h0
    · exact h.lo j hj
  · rcases part j hj with rfl | hj
    · exact h1
    · exact h.hi j hj
  · rcases part j hj with rfl | hj
    · exact h2
    · exact h.fit j hj
  · rcases part j hj with rfl | hj
    · rcases part q hq with rfl | hq
      · exact hne rfl
      · exact h3 x hx ⟨q, hq, hy⟩
    · rcases part q hq with rfl | hq
      · exact h3 x hy ⟨j, hj, hx⟩
      · exact h.dis j q x hj hq hne hx hy

theorem Part.less {k m : Nat} {at_ ln rm : Nat → Int} {en : Int} (h : Part m at_ ln rm en) (hk : k ≤ m) : Part k at_ ln rm en :=
  ⟨fun j hj => h.lo j (by omega), fun j hj => h.hi j (by omega), fun j hj => h.fit j (by omega), fun j q x hj hq => h.dis j q x (by omega) (by omega)⟩

theorem sumTo_le {k : Nat} {at_ ln rm : Nat → Int} {en : Int} (h : Part k at_ ln rm en) : sumTo rm k ≤ k * en := by
  induction k with
  | zero => simp [sumTo]
  | succ k ih =>
    have h1 := ih (h.less (Nat.le_succ _))
    have h2 := h.lo k (by omega)
    have h3 := h.hi k (by omega)
    have h4 : ((k + 1 : Nat) : Int) * en = k * en + en := by rw [Int.natCast_add, Int.add_mul]; simp
    rw [h4, sumTo]
    omega

theorem sumTo_nonneg {f : Nat → Int} {k : Nat} (h : ∀ j, j < k → 0 ≤ f j) : 0 ≤ sumTo f k := by
  induction k with
  | zero => simp [sumTo]
  | succ k ih =>
    have h1 := ih (fun j hj => h j (by omega))
    have h2 := h k (by omega)
    rw [sumTo]
    omega

theorem Used.snoc (at_ rm : Nat → Int) (k : Nat) (x : Int) : Used at_ rm (k + 1) x ↔ Used at_ rm k x ∨ InRoom at_ rm k x := by
  constructor
  · rintro ⟨q, hq, hx⟩
    by_cases e : q = k
    · exact .inr (e ▸ hx)
    · exact .inl ⟨q, by omega, hx⟩
  · rintro (⟨q, hq, hx⟩ | hx)
    · exact ⟨q, by omega, hx⟩
    · exact ⟨k, by omega, hx⟩
end Go.Proofs.Qxb6605264a
