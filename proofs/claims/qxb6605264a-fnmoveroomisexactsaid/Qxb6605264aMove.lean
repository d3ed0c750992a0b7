import Derived.Test.Qxb6605264aRec
import Derived.RegionTactic
import Derived.Deep.DrawnRows
import Derived.Deep.RegionHeld3
import Derived.Deep.RegionWith
namespace Go.Proofs.Qxb6605264a
open Go.RowKit

attribute [local go_sem ↓] Go.wp_at_zero Go.wp_at_succ

/-- The room for n bytes. -/
def roomOf (n : Nat) : Nat := (n + 7) / 8 * 8

def Chunk (w : World) (C R m : Nat) (ia : Option Addr) (L cc : Nat) (en de : Int) : Prop :=
  w.heap[C]? = some (.cells #[.slice (some ⟨R, 0, none⟩) m m, .slice none 0 0, .int .i64 0, .slice ia L cc, .int .i64 en, .int .i64 de] 55 (0, 0))

theorem Chunk.cells {w : World} {C R m : Nat} {ia : Option Addr} {L cc : Nat} {en de : Int} (h : Chunk w C R m ia L cc en de) :
    w.cell? ⟨C, 0, none⟩ = some (.slice (some ⟨R, 0, none⟩) m m) ∧ w.cell? ⟨C, 3, none⟩ = some (.slice ia L cc) ∧ w.cell? ⟨C, 4, none⟩ = some (.int .i64 en) ∧ w.cell? ⟨C, 5, none⟩ = some (.int .i64 de) ∧ (∀ o, w.frozen? ⟨C, o, none⟩ = false) ∧ C < w.heap.size :=
  ⟨(cell_of_row w C 0 _ _ _ h).trans rfl, (cell_of_row w C 3 _ _ _ h).trans rfl, (cell_of_row w C 4 _ _ _ h).trans rfl, (cell_of_row w C 5 _ _ _ h).trans rfl, fun o => frozen_of_row w C o _ _ h, lt_block h⟩

theorem Chunk.same {w w' : World} {C R m : Nat} {ia : Option Addr} {L cc : Nat} {en de : Int} (h : Chunk w C R m ia L cc en de) (hb : w'.heap[C]? = w.heap[C]?) : Chunk w' C R m ia L cc en de := hb.trans h

theorem Chunk.setDead {w : World} {C R m : Nat} {ia : Option Addr} {L cc : Nat} {en de : Int} (h : Chunk w C R m ia L cc en de) (v : Int) : Chunk (w.setCell ⟨C, 5, none⟩ (.int .i64 v)) C R m ia L cc en v := (heap_setCell_same w C 5 _ _ _ h).trans rfl
theorem Chunk.setEnd {w : World} {C R m : Nat} {ia : Option Addr} {L cc : Nat} {en de : Int} (h : Chunk w C R m ia L cc en de) (v : Int) : Chunk (w.setCell ⟨C, 4, none⟩ (.int .i64 v)) C R m ia L cc v de := (heap_setCell_same w C 4 _ _ _ h).trans rfl
theorem Chunk.setIds {w : World} {C R m : Nat} {ia ib : Option Addr} {L L2 cc c2 : Nat} {en de : Int} (h : Chunk w C R m ia L cc en de) : Chunk (w.setCell ⟨C, 3, none⟩ (.slice ib L2 c2)) C R m ib L2 c2 en de := (heap_setCell_same w C 3 _ _ _ h).trans rfl

/-- The chunk under way, above what was there. -/
structure Mid (w0 w : World) (C R m : Nat) (ia : Option Addr) (L cc : Nat) (en de : Int) (at_ ln rm : Nat → Int) : Prop where
  bel : Below w0.heap.size w0 w
  ch : Chunk w C R m ia L cc en de
  rc : RecAt w R m at_ ln rm

theorem Mid.drew {w0 w : World} {C R m : Nat} {ia : Option Addr} {L cc : Nat} {en de : Int} {at_ ln rm : Nat → Int} (h : Mid w0 w C R m ia L cc en de at_ ln rm) : Mid w0 w.drew C R m ia L cc en de at_ ln rm := ⟨h.bel.drew, h.ch, h.rc⟩

theorem Mid.dead {w0 w : World} {C R m : Nat} {ia : Option Addr} {L cc : Nat} {en de : Int} {at_ ln rm : Nat → Int} (h : Mid w0 w C R m ia L cc en de at_ ln rm) (hCR : C ≠ R) (hC0 : w0.heap.size ≤ C) (v : Int) : Mid w0 (w.setCell ⟨C, 5, none⟩ (.int .i64 v)) C R m ia L cc en v at_ ln rm :=
  ⟨h.bel.setCell hC0 _, h.ch.setDead v, h.rc.same (Below.heap_setCell w ⟨C, 5, none⟩ _ R (fun e => hCR e.symm))⟩

theorem Mid.end_ {w0 w : World} {C R m : Nat} {ia : Option Addr} {L cc : Nat} {en de : Int} {at_ ln rm : Nat → Int} (h : Mid w0 w C R m ia L cc en de at_ ln rm) (hCR : C ≠ R) (hC0 : w0.heap.size ≤ C) (v : Int) : Mid w0 (w.setCell ⟨C, 4, none⟩ (.int .i64 v)) C R m ia L cc v de at_ ln rm :=
  ⟨h.bel.setCell hC0 _, h.ch.setEnd v, h.rc.same (Below.heap_setCell w ⟨C, 4, none⟩ _ R (fun e => hCR e.symm))⟩

theorem Mid.ids {w0 w : World} {C R m : Nat} {ia ib : Option Addr} {L L2 cc c2 : Nat} {en de : Int} {at_ ln rm : Nat → Int} (h : Mid w0 w C R m ia L cc en de at_ ln rm) (hCR : C ≠ R) (hC0 : w0.heap.size ≤ C) : Mid w0 (w.setCell ⟨C, 3, none⟩ (.slice ib L2 c2)) C R m ib L2 c2 en de at_ ln rm :=
  ⟨h.bel.setCell hC0 _, h.ch.setIds, h.rc.same (Below.heap_setCell w ⟨C, 3, none⟩ _ R (fun e => hCR e.symm))⟩

theorem Mid.room {w0 w : World} {C R m i : Nat} {ia : Option Addr} {L cc : Nat} {en de : Int} {at_ ln rm : Nat → Int} (h : Mid w0 w C R m ia L cc en de at_ ln rm) (hCR : C ≠ R) (hR0 : w0.heap.size ≤ R) (hi : i < m) (v : Int) : Mid w0 (w.setCell ⟨R, i * 11 + 7, none⟩ (.int .u32 v)) C R m ia L cc en de at_ ln (upd rm i v) :=
  ⟨h.bel.setCell hR0 _, h.ch.same (Below.heap_setCell w ⟨R, _, none⟩ _ C hCR), h.rc.setRoom hi v⟩

theorem Mid.place {w0 w : World} {C R m i : Nat} {ia : Option Addr} {L cc : Nat} {en de : Int} {at_ ln rm : Nat → Int} (h : Mid w0 w C R m ia L cc en de at_ ln rm) (hCR : C ≠ R) (hR0 : w0.heap.size ≤ R) (hi : i < m) (v : Int) : Mid w0 (w.setCell ⟨R, i * 11 + 5, none⟩ (.int .i64 v)) C R m ia L cc en de (upd at_ i v) ln rm :=
  ⟨h.bel.setCell hR0 _, h.ch.same (Below.heap_setCell w ⟨R, _, none⟩ _ C hCR), h.rc.setAt hi v⟩

/-- The bytes behind the copies of the first k records. -/
def lay (S : Nat) (f at_ ln r0 : Nat → Int) : Nat → Nat → Int
  | 0 => fun _ => 0
  | k + 1 => over (lay S f at_ ln r0 k) (sumTo r0 k).toNat (Nat.min (ln k).toNat (S - (sumTo r0 k).toNat)) (fun j => f ((at_ k).toNat + j))

theorem upd_upd (g : Nat → Int) (i : Nat) (u v : Int) : upd (upd g i u) i v = upd g i v := by
  funext j
  unfold upd
  split <;> rfl

theorem sumTo_congr {g h : Nat → Int} {k : Nat} (e : ∀ j, j < k → g j = h j) : sumTo g k = sumTo h k := by
  induction k with
  | zero => rfl
  | succ k ih => rw [sumTo, sumTo, ih (fun j hj => e j (by omega)), e k (by omega)]

theorem sumTo_upd (g : Nat → Int) (i : Nat) (v : Int) (k : Nat) (hi : i < k) : sumTo (upd g i v) k = sumTo g k - g i + v := by
  induction k with
  | zero => omega
  | succ k ih =>
    rw [sumTo, sumTo]
    by_cases e : i = k
    · subst e
      rw [upd_same, sumTo_congr (g := upd g i v) (h := g) (fun j hj => upd_ne g v (by omega))]
      omega
    · rw [ih (by omega), upd_ne g v (by omega)]
      omega

theorem sumTo_mono {g : Nat → Int} {j k : Nat} (h : ∀ q, q < k → 0 ≤ g q) (hj : j ≤ k) : sumTo g j ≤ sumTo g k := by
  induction k with
  | zero => obtain rfl : j = 0 := by omega
            exact Int.le_refl _
  | succ k ih =>
    by_cases e : j = k + 1
    · subst e; exact Int.le_refl _
    · have h1 := ih (fun q hq => h q (by omega)) (by omega)
      have h2 := h k (by omega)
      rw [sumTo]
      omega

def atK (r0 at_ : Nat → Int) (k j : Nat) : Int := if j < k then sumTo r0 j else at_ j
def cutA (a : Option Addr) (cap l : Nat) : Option Addr := if cap = l then a else a.map (·.add l)

theorem Ints.cut {K : IntKind} {w : World} {a : Option Addr} {L cap lo len : Nat} {f : Nat → Int} (h : Ints K w a L f) (hl : lo + len ≤ L) (hc : L ≤ cap) : Ints K w (cutA a cap lo) len (fun j => f (lo + j)) := by
  refine ⟨fun h0 => ?_⟩
  obtain ⟨b, off, e, hlt, hcell⟩ := h.at_ (by omega)
  refine ⟨b, off + lo, by subst e; simp [cutA, Addr.add, show ¬ cap = lo by omega], hlt, fun j hj => ?_⟩
  rw [Nat.add_assoc]
  exact hcell (lo + j) (by omega)

theorem run_cut {P : Program} {t e : TypeId} (hu : P.underlying t = some (.slice e)) (hsz : ∀ w, (sizeOf e).run P w = .ok 1 w) (a : Option Addr) {L cap lo len : Nat} (hc : lo + len ≤ cap) (w : World) :
    (Instr.slice t (.slice a L cap) (some (.int .i64 lo)) (some (.int .i64 ((lo : Int) + (len : Int)))) none).run P w = .ok (.slice (cutA a cap lo) len (cap - lo)) w := by
  have h1 : P.elem t = e := by simp [Program.elem, hu]
  rw [run_slice_lh w t a L cap (by rw [h1]; exact hu) .i64 .i64 lo (lo + len) (by omega) (by omega) (by omega), h1, hsz]
  have h2 : ((lo : Int) + (len : Int)).toNat - lo = len := by omega
  simp [Result.andThen, sliced, cutA, h2]

theorem run_rest {P : Program} {t e : TypeId} (hu : P.underlying t = some (.slice e)) (hsz : ∀ w, (sizeOf e).run P w = .ok 1 w) {D S lo : Nat} (hc : lo ≤ S) (w : World) :
    (Instr.slice t (.slice (some ⟨D, 0, none⟩) S S) (some (.int .i64 lo)) none none).run P w = .ok (.slice (if S = lo then some ⟨D, 0, none⟩ else some ⟨D, lo, none⟩) (S - lo) (S - lo)) w := by
  have h1 : P.elem t = e := by simp [Program.elem, hu]
  rw [run_slice_l w t _ S S (by rw [h1]; exact hu) .i64 lo (by omega) (by omega), h1, hsz]
  simp [Result.andThen, sliced, Addr.add]
  by_cases h : lo = 0 <;> simp [h]

theorem index_run11 {P : Program} {t e : TypeId} (hu : P.underlying t = some (.slice e)) (hsz : ∀ w, (sizeOf e).run P w = .ok 11 w) {b len : Nat} (cap k : Nat) (hk : k < len) (w : World) :
    (Instr.indexAt t (.slice (some ⟨b, 0, none⟩) len cap) (.int .i64 (k : Int))).run P w = .ok (.pointer (some ⟨b, k * 11, none⟩)) w := by
  have h1 : P.elem t = e := by simp [Program.elem, hu]
  rw [run_indexAt_slice _ _ _ _ _ _ _ (by rw [h1]; exact hu), if_pos ⟨by omega, by omega⟩, h1, hsz]
  simp [Result.andThen, Addr.add]
  omega

theorem size59 (w : World) : (sizeOf 59).run Try.prog w = .ok 11 w := by kernel_rfl

def MoveNew (w0 w' : World) (C R m i RM : Nat) (at_ ln rm f : Nat → Int) : Prop :=
  ∃ D S O : Nat, w0.heap.size ≤ D ∧ D ≠ C ∧ D ≠ R ∧ sumTo (upd rm i 0) m = O ∧ S = 2 * (O + RM) ∧ Mid w0 w' C R m (some ⟨D, 0, none⟩) S S (O + RM) 0 (upd (sumTo (upd rm i 0)) i O) ln (upd rm i RM) ∧ RowTo .u8 5 w' D S S (lay S f at_ ln (upd rm i 0) m)

def MoveEnd (w0 : World) (C R m L cc i RM : Nat) (ia : Option Addr) (en de : Int) (at_ ln rm f : Nat → Int) (e : Ending) (w' : World) : Prop :=
  e = .returned (.tuple #[]) ∧ ((en + RM ≤ L ∧ Mid w0 w' C R m ia L cc (en + RM) (de + rm i) (upd at_ i en) ln (upd rm i RM)) ∨ (¬ en + RM ≤ L ∧ MoveNew w0 w' C R m i RM at_ ln rm f))

set_option maxHeartbeats 4000000 in
set_option maxRecDepth 100000 in
theorem move_any (C R i m n L cc : Nat) (ia : Option Addr) (at_ ln rm f : Nat → Int) (en de : Int) (w0 w : World) (hCR : C ≠ R) (hC0 : w0.heap.size ≤ C) (hR0 : w0.heap.size ≤ R) (hb : Below w0.heap.size w0 w)
    (hC : Chunk w C R m ia L cc en de) (hR : RecAt w R m at_ ln rm) (hI : Ints .u8 w0 ia L f) (hLc : L ≤ cc) (S : Sound m at_ ln rm L en de) (hi : i < m) (hn : n ≤ 65536) (hL : L ≤ 1048576) (hm : m ≤ 65536)
    (k1 : ∀ j, j < m → 0 ≤ ln j) (k2 : ∀ j, j < m → 0 ≤ rm j) :
    Calls Try.prog 23 #[.pointer (some ⟨C, 0, none⟩), .pointer (some ⟨R, i * 11, none⟩), .int .i64 n] w fun e w' => MoveEnd w0 C R m L cc i (roomOf n) ia en de at_ ln rm f e w' := by
  obtain ⟨x0, x3, x4, x5, xf, xl⟩ := hC.cells
  obtain ⟨y5, y6, y7, yf⟩ := hR.can i hi
  have z5 := xf 5
  have u7 := yf (i * 11 + 7)
  have hri : rm i ≤ en := by have h1 := S.part.lo i hi; have h2 := S.part.hi i hi; omega
  have hr0 := k2 i hi
  have S1 := S.eL
  have S2 := S.dE
  have S3 := S.d0
  have t0 : IntKind.u64.wrap (n : Int) = n := by rw [IntKind.wrap_u64]; omega
  go_enter Try.func23, Try.ntmps23
  go_wp2
  go_region
  go_wp2
  have hroom : ((n : Int) + 8 - 1) / 8 * 8 = (roomOf n : Nat) := by unfold roomOf; omega
  have hM : Mid w0 w C R m ia L cc en de at_ ln rm := ⟨hb, hC, hR⟩
  rw [hroom]
  refine abs_world (fun Z => Mid w0 Z C R m ia L cc en (de + rm i) at_ ln (upd rm i 0)) ((hM.dead hCR hC0 _).room hCR hR0 hi 0).drew ?_
  rintro Z hZ
  clear hM hroom x0 x3 x4 x5 xf xl y5 y6 y7 yf z5 u7 t0 hb
  obtain ⟨RM, hRM⟩ : ∃ RM, RM = roomOf n := ⟨_, rfl⟩
  have hRMb : RM ≤ n + 7 := by rw [hRM]; unfold roomOf; omega
  rw [← hRM]
  have HRM := hide hRM
  clear hRM
  obtain ⟨x0, x3, x4, x5, xf, xl⟩ := hZ.ch.cells
  obtain ⟨y5, y6, y7, yf⟩ := hZ.rc.can i hi
  have z3 := xf 3
  have z4 := xf 4
  have z5 := xf 5
  have u5 := yf (i * 11 + 5)
  have u7 := yf (i * 11 + 7)
  by_cases hfit : en + RM ≤ L
  · have t1 : decide ((L : Int) < en + RM) = false := decide_eq_false (by omega)
    have t2 : IntKind.u32.wrap (RM : Int) = RM := by rw [IntKind.wrap_u32]; omega
    have HF := hide hfit
    clear hfit
    go_region
    go_wp2
    go_end0
    refine ⟨rfl, .inl ⟨by rw [← HRM.out]; exact HF.out, ?_⟩⟩
    have h9 := (((hZ.drew.place hCR hR0 hi en).room hCR hR0 hi RM).end_ hCR hC0 (en + RM))
    rw [upd_upd] at h9
    rw [← HRM.out]
    exact h9
  · have t1 : decide ((L : Int) < en + RM) = true := decide_eq_true (by omega)
    have HF := hide hfit
    clear hfit
    have r0 : ∀ j, j < m → 0 ≤ upd rm i 0 j := fun j hj => by unfold upd; split; exact Int.le_refl _; exact k2 j hj
    obtain ⟨O, hO⟩ : ∃ O : Nat, sumTo (upd rm i 0) m = O := ⟨(sumTo (upd rm i 0) m).toNat, by have := sumTo_nonneg r0; omega⟩
    have hO2 : en - (de + rm i) = O := by have h1 := S.sum; have h2 := sumTo_upd rm i 0 m hi; omega
    go_region
    go_wp2
    refine abs_world (fun Y => Mid w0 Y C R m ia L cc en (de + rm i) at_ ln (upd rm i 0)) hZ.drew ?_
    clear x0 x3 x4 x5 xf xl y5 y6 y7 yf z3 z4 z5 u5 u7 t1 hZ
    rintro Y hY
    obtain ⟨x0, x3, x4, x5, xf, xl⟩ := hY.ch.cells
    obtain ⟨i5, j5, z5, y5, q5⟩ := info_parts Try.info5
    obtain ⟨Z2, hrun, hown2, hgr2⟩ := run_make_full (P := Try.prog) Y.drew Y.heap.size 30 5 i5 _ 1 Try.underlying30 j5 z5 y5 .i64 .i64 (2 * (O + RM)) (by rw [q5]; omega) (by unfold maxLen; omega) (Nat.le_refl _)
    obtain ⟨SZ, hSZ⟩ : ∃ SZ, SZ = 2 * (O + RM) := ⟨_, rfl⟩
    rw [← hSZ] at hrun hown2
    have e1 : (SZ : Int) = 2 * ((O : Int) + RM) := by omega
    rw [e1] at hrun
    have hO3 : O ≤ 1048576 := by omega
    have HSZ := hide hSZ
    have hSZb : SZ ≤ 4194304 := by omega
    have hZ2 : Mid w0 Z2 C R m ia L cc en (de + rm i) at_ ln (upd rm i 0) := by
      have hb2 : Below Y.heap.size Y Z2 := ⟨hgr2.os, hgr2.tape, hgr2.output, hgr2.size, fun k hk => hgr2.block k hk (by simp)⟩
      exact ⟨hY.bel.trans (hb2.mono hY.bel.size), hY.ch.same (hb2.block _ xl), hY.rc.same (hb2.block _ hY.rc.lt)⟩
    have hrow : RowTo .u8 5 Z2 Y.heap.size SZ SZ (fun _ => 0) := RowTo.made hown2
    have hDC : Y.heap.size ≠ C := by omega
    have hDR : Y.heap.size ≠ R := by have := hY.rc.lt; omega
    have hD0 : w0.heap.size ≤ Y.heap.size := hY.bel.size
    have m0 : Z2.cell? ⟨C, 0, none⟩ = some (.slice (some ⟨R, 0, none⟩) m m) := hZ2.ch.cells.1
    clear hown2 hgr2 hSZ
    go_region
    clear hrun e1 x0 x3 x4 x5 xf xl
    go_wp2
    go_loopw [8, 9, 10, 65] (fun e _ _ c wr => ∃ k : Nat, k ≤ m ∧ c = .int .i64 k ∧ e = .int .i64 (sumTo (upd rm i 0) k) ∧ Mid w0 wr C R m ia L cc en (de + rm i) (atK (upd rm i 0) at_ k) ln (upd rm i 0) ∧ RowTo .u8 5 wr Y.heap.size SZ SZ (lay SZ f at_ ln (upd rm i 0) k)) (fun _ _ _ c _ => m - (intOf c).toNat)
    case atStart => exact ⟨0, Nat.zero_le _, rfl, rfl, hZ2, hrow⟩
    case round =>
      obtain ⟨k, hk, rfl, rfl, hM, hD⟩ := hrel
      clear hZ2 hrow m0
      by_cases hlt : k < m
      · obtain ⟨x0, x3, x4, x5, xf, xl⟩ := hM.ch.cells
        obtain ⟨y5, y6, y7, yf⟩ := hM.rc.can k hlt
        have hat : atK (upd rm i 0) at_ k k = at_ k := if_neg (by omega)
        rw [hat] at y5
        have p0 := S.part.lo k hlt
        have p1 := S.part.hi k hlt
        have p2 := S.part.fit k hlt
        have p3 := k1 k hlt
        have p4 := r0 k hlt
        have p5 := sumTo_nonneg (f := upd rm i 0) (k := k) (fun j hj => r0 j (by omega))
        have p6 := sumTo_mono (g := upd rm i 0) (j := k + 1) (k := m) r0 (by omega)
        rw [sumTo, hO] at p6
        obtain ⟨A, hA⟩ : ∃ A : Nat, at_ k = A := ⟨(at_ k).toNat, by omega⟩
        obtain ⟨B, hB⟩ : ∃ B : Nat, ln k = B := ⟨(ln k).toNat, by omega⟩
        obtain ⟨G, hG⟩ : ∃ G : Nat, sumTo (upd rm i 0) k = G := ⟨(sumTo (upd rm i 0) k).toNat, by omega⟩
        obtain ⟨Q, hQ⟩ : ∃ Q : Nat, upd rm i 0 k = Q := ⟨(upd rm i 0 k).toNat, by omega⟩
        rw [hA] at y5
        rw [hB] at y6
        rw [hQ] at y7
        rw [hG]
        have hAB : A + B ≤ L := by omega
        have hGQ : G + Q ≤ O := by omega
        have hGS : G ≤ SZ := by rw [HSZ.out]; omega
        have rx := fun W => run_cut (P := Try.prog) Try.underlying30 size5 ia (L := L) (cap := cc) (lo := A) (len := B) (by omega) W
        have ry := fun W => run_rest (P := Try.prog) Try.underlying30 size5 (D := Y.heap.size) (S := SZ) (lo := G) hGS W
        have rz := fun W => index_run11 (P := Try.prog) Try.underlying52 size59 (b := R) (len := m) m k hlt W
        obtain ⟨W', hcp, hrow', hsz', hoth, ho1, ho2, ho3⟩ := copy_run wr.drew Y.heap.size SZ G B (cc - A) (lay SZ f at_ ln (upd rm i 0) k) (fun j => f (A + j)) (cutA ia cc A) (hD.same rfl) hGS ((hI.cut (by omega) hLc).below hM.bel.drew)
        obtain ⟨dp, hdp⟩ : ∃ dp, dp = (if SZ = G then (some ⟨Y.heap.size, 0, none⟩ : Option Addr) else some ⟨Y.heap.size, G, none⟩) := ⟨_, rfl⟩
        rw [← hdp] at hcp
        simp only [← hdp] at ry
        have hM' : Mid w0 W' C R m ia L cc en (de + rm i) (atK (upd rm i 0) at_ k) ln (upd rm i 0) :=
          ⟨hM.bel.trans ⟨ho1, ho2, ho3, Nat.le_of_eq hsz'.symm, fun b hb' => hoth b (by omega)⟩, hM.ch.same (hoth C hDC.symm), hM.rc.same (hoth R hDR.symm)⟩
        obtain ⟨v5, v6, v7, vf⟩ := hM'.rc.can k hlt
        have vf5 := vf (k * 11 + 5)
        rw [hQ] at v7
        have h9 : RowTo .u8 5 W' Y.heap.size SZ SZ (lay SZ f at_ ln (upd rm i 0) (k + 1)) := by
          rw [lay, hA, hB, hG]
          simpa using hrow'
        have h10 : Mid w0 (W'.setCell ⟨R, k * 11 + 5, none⟩ (.int .i64 G)) C R m ia L cc en (de + rm i) (atK (upd rm i 0) at_ (k + 1)) ln (upd rm i 0) := by
          have h11 := hM'.place hCR hR0 hlt G
          refine ⟨h11.bel, h11.ch, h11.rc.congr (fun q hq => ?_) (fun _ _ => rfl) (fun _ _ => rfl)⟩
          by_cases e : q = k
          · rw [e, upd_same, atK, if_pos (by omega), hG]
          · rw [upd_ne _ _ e, atK, atK]
            by_cases e2 : q < k
            · rw [if_pos e2, if_pos (by omega)]
            · rw [if_neg e2, if_neg (by omega)]
        have h12 : sumTo (upd rm i 0) (k + 1) = (G : Int) + Q := by rw [sumTo, hG, hQ]
        have h13 : RowTo .u8 5 (W'.setCell ⟨R, k * 11 + 5, none⟩ (.int .i64 G)) Y.heap.size SZ SZ (lay SZ f at_ ln (upd rm i 0) (k + 1)) := h9.same (Below.heap_setCell W' ⟨R, _, none⟩ _ _ hDR)
        have H12 := hide h12
        clear h9 h12 hrow' hoth ho1 ho2 ho3 hsz' hM hdp hat hA hB hG hQ p0 p1 p2 p3 p4 p5 p6 x4 x5 xf vf yf
        go_wp2
        go_region
        go_wp2
        go_roundw
        case rel => exact ⟨k + 1, by omega, by go_num, by rw [H12.out], h10, h13⟩
        case measure => simp [intOf]; omega
      · obtain rfl : k = m := by omega
        obtain ⟨x0, x3, x4, x5, xf, xl⟩ := hM.ch.cells
        obtain ⟨y5, y6, y7, yf⟩ := hM.rc.can i hi
        have z3 := xf 3
        have z4 := xf 4
        have z5 := xf 5
        have u5 := yf (i * 11 + 5)
        have u7 := yf (i * 11 + 7)
        have t2 : IntKind.u32.wrap (RM : Int) = RM := by rw [IntKind.wrap_u32]; omega
        rw [hO]
        clear xf yf
        go_wp2
        go_end0
        refine ⟨rfl, .inr ⟨by rw [← HRM.out]; have := HF.out; omega, ?_⟩⟩
        have h9 := (((((hM.ids (ib := some ⟨Y.heap.size, 0, none⟩) (L2 := SZ) (c2 := SZ) hCR hC0).end_ hCR hC0 O).dead hCR hC0 0).place hCR hR0 hi O).room hCR hR0 hi RM).end_ hCR hC0 (O + RM)
        have s3 := fun (V : World) (o : Nat) (u : Value) => Below.heap_setCell V ⟨C, o, none⟩ u Y.heap.size hDC
        have s4 := fun (V : World) (o : Nat) (u : Value) => Below.heap_setCell V ⟨R, o, none⟩ u Y.heap.size hDR
        refine ⟨Y.heap.size, SZ, O, hD0, hDC, hDR, hO, by rw [HSZ.out, HRM.out], ?_, hD.same ((s3 _ _ _).trans ((s4 _ _ _).trans ((s4 _ _ _).trans ((s3 _ _ _).trans ((s3 _ _ _).trans (s3 _ _ _))))))⟩
        rw [← HRM.out]
        rw [upd_upd] at h9
        refine ⟨h9.bel, h9.ch, h9.rc.congr (fun q hq => ?_) (fun _ _ => rfl) (fun _ _ => rfl)⟩
        by_cases e : q = i
        · rw [e, upd_same, upd_same]
        · rw [upd_ne _ _ e, upd_ne _ _ e, atK, if_pos hq]
end Go.Proofs.Qxb6605264a
