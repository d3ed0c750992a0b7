import Derived.Test.Qxb6605264aZZ
import Derived.Test.Qxb6605264aLaw
import Derived.Test.Qxb6605264aSnd
namespace Go.Proofs.Qxb6605264a
open Go.RowKit

attribute [local go_sem ↓] Go.wp_at_zero Go.wp_at_succ

/-- The ids: a row of the call's own, from lo on. -/
def Ids (lo : Nat) (w : World) (ia : Option Addr) (L : Nat) (f : Nat → Int) : Prop := 0 < L → ∃ D, ia = some ⟨D, 0, none⟩ ∧ lo ≤ D ∧ RowTo .u8 5 w D L L f

theorem Ids.ints {lo : Nat} {w : World} {ia : Option Addr} {L : Nat} {f : Nat → Int} (h : Ids lo w ia L f) : Ints .u8 w ia L f := by
  refine ⟨fun h0 => ?_⟩
  obtain ⟨D, rfl, _, hr⟩ := h h0
  exact hr.ints.at_ h0

theorem Ids.below {lo : Nat} {w w' : World} {ia : Option Addr} {L : Nat} {f : Nat → Int} (h : Ids lo w ia L f) (hb : Below w.heap.size w w') : Ids lo w' ia L f := fun h0 => by
  obtain ⟨D, h1, h2, hr⟩ := h h0
  exact ⟨D, h1, h2, hr.same (hb.block D (by obtain ⟨cur, hc, _⟩ := hr; exact lt_block hc))⟩

/-- What is awaited: for each record a row of bytes. -/
def Wants (w : World) (W m : Nat) (ia : Option Addr) (L : Nat) (ln : Nat → Int) (g : Nat → Nat → Int) : Prop :=
  ∃ cur, w.heap[W]? = some (.cells cur 30 (0, 0)) ∧ cur.size = m ∧ ∀ k, k < m → ∃ b, cur[k]? = some (.slice (some ⟨b, 0, none⟩) (ln k).toNat (ln k).toNat) ∧ (0 < L → ia ≠ some ⟨b, 0, none⟩) ∧ RowTo .u8 5 w b (ln k).toNat (ln k).toNat (g k)

theorem Wants.below {w w' : World} {W m L : Nat} {ia : Option Addr} {ln : Nat → Int} {g : Nat → Nat → Int} (h : Wants w W m ia L ln g) (hb : Below w.heap.size w w') : Wants w' W m ia L ln g := by
  obtain ⟨cur, h1, h2, h3⟩ := h
  refine ⟨cur, (hb.block W (lt_block h1)).trans h1, h2, fun k hk => ?_⟩
  obtain ⟨b, e1, e2, hr⟩ := h3 k hk
  exact ⟨b, e1, e2, hr.same (hb.block b (by obtain ⟨c, hc, _⟩ := hr; exact lt_block hc))⟩

/-- All that a move and the next one need. -/
structure St (w00 w : World) (m : Nat) (a0 a1 a2 ia : Option Addr) (L : Nat) (en de : Int) (W : Nat) (at_ ln rm f : Nat → Int) (g : Nat → Nat → Int) : Prop where
  bel : Below w00.heap.size w00 w
  i0 : Ints .i64 w a0 m at_
  i1 : Ints .u32 w a1 m ln
  i2 : Ints .u32 w a2 m rm
  ids : Ids w00.heap.size w ia L f
  snd : Sound m at_ ln rm L en de
  wW : w00.heap.size ≤ W
  wnt : Wants w W m ia L ln g
  cont : ∀ k j : Nat, k < m → (j : Int) < ln k → g k j = f ((at_ k).toNat + j)
  k1 : ∀ j, j < m → 0 ≤ ln j ∧ ln j < 4294967296
  k2 : ∀ j, j < m → 0 ≤ rm j ∧ rm j < 4294967296

/-- The byte that is put at j. -/
def byteAt (i j : Nat) : Int := IntKind.u8.wrap (7 * (j : Int) + 3 * (i : Int) + 1)

/-- How the chunk stands behind a move, before the id is put. -/
structure Moved (w00 w1 : World) (m i n RM W L : Nat) (at_ ln rm f : Nat → Int) (g : Nat → Nat → Int) (ia' : Option Addr) (L' cc' : Nat) (en' de' : Int) (at' f' : Nat → Int) : Prop where
  ids : Ids w00.heap.size w1 ia' L' f'
  cc : cc' = L'
  snd : Sound m at' (upd ln i n) (upd rm i RM) L' en' de'
  wnt : Wants w1 W m ia' L' ln g
  cont : ∀ k j : Nat, k < m → k ≠ i → (j : Int) < ln k → g k j = f' ((at' k).toNat + j)
  big : L' ≤ 2 * (L + n + 8)

theorem after_move {w00 w w1 V : World} {m i n RM W L : Nat} {a0 a1 a2 ia ia' : Option Addr} {en de en' de' : Int} {at_ ln rm f at' : Nat → Int} {g : Nat → Nat → Int} {L' cc' : Nat} (T : St w00 w m a0 a1 a2 ia L en de W at_ ln rm f g) (hi : i < m) (hb1 : Below w.heap.size w w1) (hV : Below V.heap.size V w1)
    (hK : Kind w V m L L i RM ia en de at_ ln rm f ia' L' cc' en' de' at') (h1 : n ≤ RM) (h2 : RM ≤ n + 7) : ∃ f', Moved w00 w1 m i n RM W L at_ ln rm f g ia' L' cc' en' de' at' f' := by
  have k2 := fun j hj => (T.k2 j hj).1
  rcases hK with ⟨q0, rfl, rfl, rfl, rfl, rfl, rfl⟩ | ⟨q0, D, O, q1, q2, rfl, rfl, q4, rfl, rfl, rfl, rfl, q8⟩
  · refine ⟨f, T.ids.below hb1, rfl, sound_fit T.snd k2 hi q0 h1, T.wnt.below hb1, fun k j hk hki hj => ?_, by omega⟩
    rw [upd_ne _ _ hki]
    exact T.cont k j hk hj
  · have hO : O ≤ L := by
      have h3 := sumTo_upd rm i 0 m hi
      have h4 := T.snd.sum
      have h5 := T.snd.eL
      have h6 := T.snd.d0
      have h7 := k2 i hi
      omega
    refine ⟨_, fun _ => ⟨D, rfl, Nat.le_trans T.bel.size q1, q8.same (hV.block D q2)⟩, rfl, sound_new T.snd k2 hi q4 h1, ?_, fun k j hk hki hj => ?_, by omega⟩
    · obtain ⟨cur, e1, e2, e3⟩ := T.wnt.below hb1
      obtain ⟨cur0, f1, f2, f3⟩ := T.wnt
      have hcc : cur = cur0 := by
        have := e1.symm.trans ((hb1.block W (lt_block f1)).trans f1)
        injection this with this
        injection this
      subst hcc
      refine ⟨cur, e1, e2, fun k hk => ?_⟩
      obtain ⟨b, x1, x2, x3⟩ := f3 k hk
      have hbl : b < w.heap.size := by obtain ⟨c, hc, _⟩ := x3; exact lt_block hc
      exact ⟨b, x1, fun _ h => by injection h with h; injection h with h; omega, x3.same (hb1.block b hbl)⟩
    · rw [upd_ne _ _ hki, lay_at T.snd k2 q4 hk hki hj (by omega)]
      exact T.cont k j hk hj

def PutEnd (w00 : World) (m i n W L : Nat) (ln : Nat → Int) (e : Ending) (w' : World) : Prop :=
  ∃ a0 a1 a2 ia L' en de at' rm' f' g', e = .returned (.tuple #[.slice a0 m m, .slice a1 m m, .slice a2 m m, .slice ia L' L', .int .i64 en, .int .i64 de, .bool true]) ∧ L' ≤ 2 * (L + n + 8) ∧ St w00 w' m a0 a1 a2 ia L' en de W at' (upd ln i n) rm' f' g'

/-- In the midst of the putting: rows, ids, and what is awaited; all below N but the new id. -/
structure Now (w00 w : World) (N m A1 A2 A3 : Nat) (ia : Option Addr) (L W : Nat) (at_ l2 rm F ln : Nat → Int) (g : Nat → Nat → Int) : Prop where
  bel : Below w00.heap.size w00 w
  lo : w00.heap.size ≤ N
  hi : A1 < N ∧ A2 < N ∧ A3 < N ∧ W < N ∧ ∀ D, 0 < L → ia = some ⟨D, 0, none⟩ → D < N
  p1 : RowTo .i64 3 w A1 m m at_
  p2 : RowTo .u32 38 w A2 m m l2
  p3 : RowTo .u32 38 w A3 m m rm
  ids : Ids w00.heap.size w ia L F
  wnt : ∃ cur, w.heap[W]? = some (.cells cur 30 (0, 0)) ∧ cur.size = m ∧ ∀ k, k < m → ∃ b, cur[k]? = some (.slice (some ⟨b, 0, none⟩) (ln k).toNat (ln k).toNat) ∧ (0 < L → ia ≠ some ⟨b, 0, none⟩) ∧ b < N ∧ RowTo .u8 5 w b (ln k).toNat (ln k).toNat (g k)

theorem ne_of_type {w : World} {B D : Nat} {c1 c2 : Array Value} {t1 t2 : TypeId} (h1 : w.heap[B]? = some (.cells c1 t1 (0, 0))) (h2 : w.heap[D]? = some (.cells c2 t2 (0, 0))) (h : t1 ≠ t2) : B ≠ D := fun e => by
  subst e
  rw [h1] at h2
  injection h2 with h2
  injection h2 with _ h3 _
  exact h h3

theorem RowTo.blk {K : IntKind} {T : TypeId} {w : World} {B len k : Nat} {f : Nat → Int} (h : RowTo K T w B len k f) : ∃ cur, w.heap[B]? = some (.cells cur T (0, 0)) := by
  obtain ⟨cur, h1, _⟩ := h
  exact ⟨cur, h1⟩

/-- A store into a block from N on. -/
theorem Now.new {w00 w : World} {N m A1 A2 A3 : Nat} {ia : Option Addr} {L W : Nat} {at_ l2 rm F ln : Nat → Int} {g : Nat → Nat → Int} (h : Now w00 w N m A1 A2 A3 ia L W at_ l2 rm F ln g) {I o : Nat} (hI : N ≤ I) (u : Value) : Now w00 (w.setCell ⟨I, o, none⟩ u) N m A1 A2 A3 ia L W at_ l2 rm F ln g := by
  obtain ⟨h1, h2, h3, h4, h5⟩ := h.hi
  have hs : ∀ b, b < N → (w.setCell ⟨I, o, none⟩ u).heap[b]? = w.heap[b]? := fun b hb => Below.heap_setCell w ⟨I, o, none⟩ u b (by simp; omega)
  refine ⟨h.bel.setCell (Nat.le_trans h.lo hI) _, h.lo, h.hi, h.p1.same (hs _ h1), h.p2.same (hs _ h2), h.p3.same (hs _ h3), fun h0 => ?_, ?_⟩
  · obtain ⟨D, e1, e2, e3⟩ := h.ids h0
    exact ⟨D, e1, e2, e3.same (hs _ (h5 D h0 e1))⟩
  · obtain ⟨cur, e1, e2, e3⟩ := h.wnt
    refine ⟨cur, (hs _ h4).trans e1, e2, fun k hk => ?_⟩
    obtain ⟨b, x1, x2, x3, x4⟩ := e3 k hk
    exact ⟨b, x1, x2, x3, x4.same (hs b x3)⟩

/-- A byte of the ids is stored. -/
theorem Now.put {w00 w : World} {N m A1 A2 A3 : Nat} {ia : Option Addr} {L W : Nat} {at_ l2 rm F ln : Nat → Int} {g : Nat → Nat → Int} (h : Now w00 w N m A1 A2 A3 ia L W at_ l2 rm F ln g) {D x : Nat} (hD : ia = some ⟨D, 0, none⟩) (hx : x < L) (v : Int) : Now w00 (w.setCell ⟨D, x, none⟩ (.int .u8 v)) N m A1 A2 A3 ia L W at_ l2 rm (upd F x v) ln g := by
  obtain ⟨D', e1, e2, e3⟩ := h.ids (by omega)
  obtain rfl : D' = D := by rw [hD] at e1; injection e1 with e1; injection e1 with e1 _ _; exact e1.symm
  obtain ⟨cd, hcd⟩ := e3.blk
  obtain ⟨c1, hc1⟩ := h.p1.blk
  obtain ⟨c2, hc2⟩ := h.p2.blk
  obtain ⟨c3, hc3⟩ := h.p3.blk
  obtain ⟨cur, w1, w2, w3⟩ := h.wnt
  have hs : ∀ b, b ≠ D' → (w.setCell ⟨D', x, none⟩ (.int .u8 v)).heap[b]? = w.heap[b]? := fun b hb => Below.heap_setCell w ⟨D', x, none⟩ _ b hb
  refine ⟨h.bel.setCell e2 _, h.lo, h.hi, h.p1.same (hs _ (ne_of_type hc1 hcd (by decide))), h.p2.same (hs _ (ne_of_type hc2 hcd (by decide))), h.p3.same (hs _ (ne_of_type hc3 hcd (by decide))), fun h0 => ⟨D', e1, e2, e3.set hx⟩, ?_⟩
  refine ⟨cur, (hs _ (ne_of_type w1 hcd (by decide))).trans w1, w2, fun k hk => ?_⟩
  obtain ⟨b, x1, x2, x3, x4⟩ := w3 k hk
  exact ⟨b, x1, x2, x3, x4.same (hs b (fun e => x2 (by omega) (by rw [e]; exact hD)))⟩

def gset (g : Nat → Nat → Int) (i : Nat) (b : Nat → Int) (k : Nat) : Nat → Int := if k = i then b else g k

/-- The new id is awaited from now on. -/
theorem Now.await {w00 w : World} {N m A1 A2 A3 i n : Nat} {ia : Option Addr} {L W : Nat} {at_ l2 rm F ln b : Nat → Int} {g : Nat → Nat → Int} (h : Now w00 w N m A1 A2 A3 ia L W at_ l2 rm F ln g) (hr : RowTo .u8 5 w N n n b) (hi : i < m) (hW : w00.heap.size ≤ W) :
    Below w00.heap.size w00 (w.setCell ⟨W, i, none⟩ (.slice (some ⟨N, 0, none⟩) n n)) ∧ RowTo .i64 3 (w.setCell ⟨W, i, none⟩ (.slice (some ⟨N, 0, none⟩) n n)) A1 m m at_ ∧ RowTo .u32 38 (w.setCell ⟨W, i, none⟩ (.slice (some ⟨N, 0, none⟩) n n)) A2 m m l2 ∧ RowTo .u32 38 (w.setCell ⟨W, i, none⟩ (.slice (some ⟨N, 0, none⟩) n n)) A3 m m rm ∧
      Ids w00.heap.size (w.setCell ⟨W, i, none⟩ (.slice (some ⟨N, 0, none⟩) n n)) ia L F ∧ Wants (w.setCell ⟨W, i, none⟩ (.slice (some ⟨N, 0, none⟩) n n)) W m ia L (upd ln i n) (gset g i b) := by
  obtain ⟨cur, w1, w2, w3⟩ := h.wnt
  obtain ⟨c1, hc1⟩ := h.p1.blk
  obtain ⟨c2, hc2⟩ := h.p2.blk
  obtain ⟨c3, hc3⟩ := h.p3.blk
  obtain ⟨c4, hc4⟩ := hr.blk
  have hs : ∀ B, B ≠ W → (w.setCell ⟨W, i, none⟩ (.slice (some ⟨N, 0, none⟩) n n)).heap[B]? = w.heap[B]? := fun B hB => Below.heap_setCell w ⟨W, i, none⟩ _ B hB
  refine ⟨h.bel.setCell hW _, h.p1.same (hs _ (ne_of_type hc1 w1 (by decide))), h.p2.same (hs _ (ne_of_type hc2 w1 (by decide))), h.p3.same (hs _ (ne_of_type hc3 w1 (by decide))), fun h0 => ?_, ?_⟩
  · obtain ⟨D, e1, e2, e3⟩ := h.ids h0
    obtain ⟨cd, hcd⟩ := e3.blk
    exact ⟨D, e1, e2, e3.same (hs _ (ne_of_type hcd w1 (by decide)))⟩
  · refine ⟨_, heap_setCell_same w W i cur 30 _ w1, by simpa using w2, fun k hk => ?_⟩
    by_cases e : k = i
    · subst e
      refine ⟨N, by rw [Array.getElem?_setIfInBounds_self_of_lt (by omega), upd_same]; rfl, fun h0 hD => ?_, ?_⟩
      · have := h.hi.2.2.2.2 N h0 hD
        omega
      · rw [upd_same, gset, if_pos rfl]
        exact hr.same (hs _ (ne_of_type hc4 w1 (by decide)))
    · obtain ⟨b', x1, x2, x3, x4⟩ := w3 k hk
      obtain ⟨cb, hcb⟩ := x4.blk
      refine ⟨b', by rw [Array.getElem?_setIfInBounds_ne (by omega), upd_ne _ _ e]; exact x1, x2, ?_⟩
      rw [upd_ne _ _ e, gset, if_neg e]
      exact x4.same (hs _ (ne_of_type hcb w1 (by decide)))

theorem Now.start {w00 w1 w3 w4 : World} {m i n RM W L A1 A2 A3 : Nat} {at_ ln rm f : Nat → Int} {g : Nat → Nat → Int} {ia' : Option Addr} {L' : Nat} {en' de' : Int} {at' f' : Nat → Int} (hM : Moved w00 w1 m i n RM W L at_ ln rm f g ia' L' L' en' de' at' f') (b1 : Below w00.heap.size w00 w1)
    (hlo : w00.heap.size ≤ A2) (q20 : RowTo .u32 38 w1 A2 m m ln) (q1 : RowTo .i64 3 (w1.setCell ⟨A2, i, none⟩ (.int .u32 n)) A1 m m at') (q2 : RowTo .u32 38 (w1.setCell ⟨A2, i, none⟩ (.int .u32 n)) A2 m m (upd ln i n)) (q3 : RowTo .u32 38 (w1.setCell ⟨A2, i, none⟩ (.int .u32 n)) A3 m m (upd rm i RM))
    (hb3 : Below (w1.setCell ⟨A2, i, none⟩ (.int .u32 n)).heap.size (w1.setCell ⟨A2, i, none⟩ (.int .u32 n)) w3) (hb4 : Below w3.heap.size w3 w4) :
    Now w00 w4 w3.heap.size m A1 A2 A3 ia' L' W at' (upd ln i n) (upd rm i RM) f' ln g := by
  obtain ⟨w2, hw2⟩ : ∃ w2, w2 = w1.setCell ⟨A2, i, none⟩ (.int .u32 n) := ⟨_, rfl⟩
  have hs2 : w2.heap.size = w1.heap.size := by rw [hw2]; simp
  have hst : ∀ b, b ≠ A2 → w2.heap[b]? = w1.heap[b]? := fun b hb => by rw [hw2]; exact Below.heap_setCell w1 ⟨A2, i, none⟩ _ b hb
  have b2 : Below w00.heap.size w00 w2 := by rw [hw2]; exact b1.setCell hlo _
  rw [← hw2] at q1 q2 q3 hb3
  clear hw2
  have hb24 : Below w2.heap.size w2 w4 := hb3.trans (hb4.mono hb3.size)
  obtain ⟨c1, hc1⟩ := q1.blk
  obtain ⟨c2, hc2⟩ := q2.blk
  obtain ⟨c3, hc3⟩ := q3.blk
  obtain ⟨cur, e1, e2, e3⟩ := hM.wnt
  have hA2 : ∀ {B : Nat} {c : Array Value} {t : TypeId}, w1.heap[B]? = some (.cells c t (0, 0)) → t ≠ 38 → B ≠ A2 := fun {B c t} hB ht e => by
    obtain ⟨c', hc'⟩ := q20.blk
    exact ne_of_type hB hc' ht e
  refine ⟨b2.trans (hb24.mono b2.size), Nat.le_trans b2.size hb3.size, ⟨Nat.lt_of_lt_of_le (lt_block hc1) hb3.size, Nat.lt_of_lt_of_le (lt_block hc2) hb3.size, Nat.lt_of_lt_of_le (lt_block hc3) hb3.size, by have := lt_block e1; have := hb3.size; omega, fun D h0 hD => ?_⟩, q1.same (hb24.block _ (lt_block hc1)), q2.same (hb24.block _ (lt_block hc2)), q3.same (hb24.block _ (lt_block hc3)), fun h0 => ?_, ?_⟩
  · obtain ⟨D', x1, x2, x3⟩ := hM.ids h0
    rw [x1] at hD
    injection hD with hD
    injection hD with hD _ _
    obtain ⟨c, hc⟩ := x3.blk
    have := lt_block hc
    have := hb3.size
    omega
  · obtain ⟨D', x1, x2, x3⟩ := hM.ids h0
    obtain ⟨c, hc⟩ := x3.blk
    exact ⟨D', x1, x2, x3.same ((hb24.block _ (by rw [hs2]; exact lt_block hc)).trans (hst _ (hA2 hc (by decide))))⟩
  · refine ⟨cur, ((hb24.block _ (by rw [hs2]; exact lt_block e1)).trans (hst _ (hA2 e1 (by decide)))).trans e1, e2, fun k hk => ?_⟩
    obtain ⟨b, x1, x2, x3⟩ := e3 k hk
    obtain ⟨c, hc⟩ := x3.blk
    exact ⟨b, x1, x2, by have := lt_block hc; have := hb3.size; omega, x3.same ((hb24.block _ (by rw [hs2]; exact lt_block hc)).trans (hst _ (hA2 hc (by decide))))⟩
end Go.Proofs.Qxb6605264a
