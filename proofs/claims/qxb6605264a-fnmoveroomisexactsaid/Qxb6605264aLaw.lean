import Derived.Test.Qxb6605264aMove
namespace Go.Proofs.Qxb6605264a

variable {m L i RM n : Nat} {at_ ln rm f : Nat → Int} {en de : Int}

theorem sumTo_one (h : ∀ j, j < m → 0 ≤ rm j) (hi : i < m) : rm i ≤ sumTo rm m := by
  have h1 := sumTo_upd rm i 0 m hi
  have h2 : 0 ≤ sumTo (upd rm i 0) m := sumTo_nonneg (fun j hj => by unfold upd; split; exact Int.le_refl _; exact h j hj)
  omega

/-- A move that fits, and the id put there: sound. -/
theorem sound_fit (S : Sound m at_ ln rm L en de) (k2 : ∀ j, j < m → 0 ≤ rm j) (hi : i < m) (hfit : en + RM ≤ L) (hn : n ≤ RM) : Sound m (upd at_ i en) (upd ln i n) (upd rm i RM) L (en + RM) (de + rm i) := by
  have h1 := sumTo_one k2 hi
  have h2 := S.sum
  have h3 := k2 i hi
  have h4 := S.d0
  have h5 := S.e0
  refine ⟨by omega, hfit, by omega, by omega, ⟨fun j hj => ?_, fun j hj => ?_, fun j hj => ?_, fun j q x hj hq hne hx hy => ?_⟩, by rw [sumTo_upd rm i RM m hi]; omega⟩
  · by_cases e : j = i
    · rw [e, upd_same]; omega
    · rw [upd_ne _ _ e]; exact S.part.lo j hj
  · by_cases e : j = i
    · rw [e, upd_same, upd_same]; omega
    · rw [upd_ne _ _ e, upd_ne _ _ e]; have := S.part.hi j hj; omega
  · by_cases e : j = i
    · rw [e, upd_same, upd_same]; omega
    · rw [upd_ne _ _ e, upd_ne _ _ e]; exact S.part.fit j hj
  · have key : ∀ q, q < m → q ≠ i → InRoom (upd at_ i en) (upd rm i RM) i x → InRoom (upd at_ i en) (upd rm i RM) q x → False := fun q hq hqi hx hy => by
      obtain ⟨x0, x1⟩ := hx
      obtain ⟨y0, y1⟩ := hy
      rw [upd_same] at x0
      rw [upd_ne _ _ hqi, upd_ne _ _ hqi] at y1
      have := S.part.hi q hq
      omega
    by_cases e : j = i
    · subst e
      exact key q hq (fun e => hne e.symm) hx hy
    · by_cases e2 : q = i
      · subst e2
        exact key j hj e hy hx
      · rw [InRoom, upd_ne _ _ e, upd_ne _ _ e] at hx
        rw [InRoom, upd_ne _ _ e2, upd_ne _ _ e2] at hy
        exact S.part.dis j q x hj hq hne hx hy

theorem r0_nonneg (k2 : ∀ j, j < m → 0 ≤ rm j) : ∀ j, j < m → 0 ≤ upd rm i 0 j := fun j hj => by unfold upd; split; exact Int.le_refl _; exact k2 j hj

/-- The packed rooms lie one behind the other. -/
theorem packed_lt (k2 : ∀ j, j < m → 0 ≤ rm j) {j q : Nat} (hq : q < m) (hjq : j < q) (hj : j ≠ i) : sumTo (upd rm i 0) j + rm j ≤ sumTo (upd rm i 0) q := by
  have h1 := sumTo_mono (g := upd rm i 0) (j := j + 1) (k := q) (fun x hx => r0_nonneg k2 x (by omega)) (by omega)
  rw [sumTo, upd_ne _ _ hj] at h1
  exact h1

theorem packed_end (k2 : ∀ j, j < m → 0 ≤ rm j) {j : Nat} (hj : j < m) (hji : j ≠ i) : sumTo (upd rm i 0) j + rm j ≤ sumTo (upd rm i 0) m := by
  have h1 := sumTo_mono (g := upd rm i 0) (j := j + 1) (k := m) (r0_nonneg k2) (by omega)
  rw [sumTo, upd_ne _ _ hji] at h1
  exact h1

/-- A move into new room, and the id put there: sound. -/
theorem sound_new {O : Nat} (S : Sound m at_ ln rm L en de) (k2 : ∀ j, j < m → 0 ≤ rm j) (hi : i < m) (hO : sumTo (upd rm i 0) m = O) (hn : n ≤ RM) : Sound m (upd (sumTo (upd rm i 0)) i O) (upd ln i n) (upd rm i RM) (2 * (O + RM)) (O + RM) 0 := by
  have hs : sumTo (upd rm i RM) m = O + RM := by
    have h1 := sumTo_upd rm i RM m hi
    have h2 := sumTo_upd rm i 0 m hi
    omega
  refine ⟨by omega, by omega, Int.le_refl _, by omega, ⟨fun j hj => ?_, fun j hj => ?_, fun j hj => ?_, fun j q x hj hq hne hx hy => ?_⟩, by omega⟩
  · by_cases e : j = i
    · rw [e, upd_same]; omega
    · rw [upd_ne _ _ e]; exact sumTo_nonneg (fun x hx => r0_nonneg k2 x (by omega))
  · by_cases e : j = i
    · rw [e, upd_same, upd_same]; omega
    · rw [upd_ne _ _ e, upd_ne _ _ e]; have := packed_end (i := i) k2 hj e; omega
  · by_cases e : j = i
    · rw [e, upd_same, upd_same]; omega
    · rw [upd_ne _ _ e, upd_ne _ _ e]; exact S.part.fit j hj
  · have key : ∀ q, q < m → q ≠ i → InRoom (upd (sumTo (upd rm i 0)) i O) (upd rm i RM) i x → InRoom (upd (sumTo (upd rm i 0)) i O) (upd rm i RM) q x → False := fun q hq hqi hx hy => by
      obtain ⟨x0, x1⟩ := hx
      obtain ⟨y0, y1⟩ := hy
      rw [upd_same] at x0
      rw [upd_ne _ _ hqi, upd_ne _ _ hqi] at y1
      have := packed_end (i := i) k2 hq hqi
      omega
    have key2 : ∀ j q, j < q → q < m → j ≠ i → q ≠ i → InRoom (upd (sumTo (upd rm i 0)) i O) (upd rm i RM) j x → InRoom (upd (sumTo (upd rm i 0)) i O) (upd rm i RM) q x → False := fun j q hjq hq hji hqi hx hy => by
      obtain ⟨x0, x1⟩ := hx
      obtain ⟨y0, y1⟩ := hy
      rw [upd_ne _ _ hji, upd_ne _ _ hji] at x1
      rw [upd_ne _ _ hqi] at y0
      have := packed_lt (i := i) k2 hq hjq hji
      omega
    by_cases e : j = i
    · subst e
      exact key q hq (fun e => hne e.symm) hx hy
    · by_cases e2 : q = i
      · subst e2
        exact key j hj e hy hx
      · rcases Nat.lt_trichotomy j q with h | h | h
        · exact key2 j q h hq e e2 hx hy
        · exact hne h
        · exact key2 q j h hj e2 e hy hx

/-- A byte that record k alone wrote stands until the end. -/
theorem lay_keep (S : Nat) (f at_ ln r0 : Nat → Int) (x : Nat) {k q : Nat} (hkq : k ≤ q) (h : ∀ p, k ≤ p → p < q → ¬ ((sumTo r0 p).toNat ≤ x ∧ x < (sumTo r0 p).toNat + (ln p).toNat)) : lay S f at_ ln r0 q x = lay S f at_ ln r0 k x := by
  induction q with
  | zero => obtain rfl : k = 0 := by omega
            rfl
  | succ q ih =>
    by_cases e : k = q + 1
    · rw [e]
    · rw [lay, over, if_neg, ih (by omega) (fun p h1 h2 => h p h1 (by omega))]
      intro h2
      have h3 := h q (by omega) (by omega)
      have h4 : Nat.min (ln q).toNat (S - (sumTo r0 q).toNat) ≤ (ln q).toNat := Nat.min_le_left _ _
      omega

/-- Where record k's id has gone, it reads as before. -/
theorem lay_at {O : Nat} (S : Sound m at_ ln rm L en de) (k2 : ∀ j, j < m → 0 ≤ rm j) (hO : sumTo (upd rm i 0) m = O) {k j SZ : Nat} (hk : k < m) (hki : k ≠ i) (hj : (j : Int) < ln k) (hSZ : O ≤ SZ) :
    lay SZ f at_ ln (upd rm i 0) m ((sumTo (upd rm i 0) k).toNat + j) = f ((at_ k).toNat + j) := by
  have p0 : 0 ≤ sumTo (upd rm i 0) k := sumTo_nonneg (fun x hx => r0_nonneg k2 x (by omega))
  have pf := S.part.fit k hk
  rw [lay_keep (k := k + 1) (q := m) _ _ _ _ _ _ (by omega) (fun p h1 h2 h3 => by
    have h4 := packed_lt (i := i) k2 (j := k) (q := p) h2 (by omega) hki
    omega)]
  have pe := packed_end (i := i) k2 hk hki
  have hmin : j < Nat.min (ln k).toNat (SZ - (sumTo (upd rm i 0) k).toNat) := Nat.lt_min.2 ⟨by omega, by omega⟩
  rw [lay, over, if_pos ⟨by omega, by omega⟩]
  congr 2
  omega
end Go.Proofs.Qxb6605264a
