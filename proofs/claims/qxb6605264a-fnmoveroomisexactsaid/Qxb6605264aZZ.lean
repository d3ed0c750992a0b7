import Derived.Test.Qxb6605264aMove
namespace Go.Proofs.Qxb6605264a
open Go.RowKit

attribute [local go_sem ↓] Go.wp_at_zero Go.wp_at_succ

def pre (g : Nat → Int) (k j : Nat) : Int := if j < k then g j else 0

theorem pre_upd (g : Nat → Int) (k j : Nat) : upd (pre g k) k (g k) j = pre g (k + 1) j := by
  unfold upd pre
  by_cases e : j = k
  · subst e; rw [if_pos rfl, if_pos (by omega)]
  · rw [if_neg e]
    by_cases e2 : j < k
    · rw [if_pos e2, if_pos (by omega)]
    · rw [if_neg e2, if_neg (by omega)]

/-- How the ids, the end, the dead bytes and the places stand behind a move. -/
def Kind (w V : World) (m L cc i RM : Nat) (ia : Option Addr) (en de : Int) (at_ ln rm f : Nat → Int) (ia' : Option Addr) (L' cc' : Nat) (en' de' : Int) (at' : Nat → Int) : Prop :=
  (en + RM ≤ L ∧ ia' = ia ∧ L' = L ∧ cc' = cc ∧ en' = en + RM ∧ de' = de + rm i ∧ at' = upd at_ i en) ∨
  (¬ en + RM ≤ L ∧ ∃ D O : Nat, w.heap.size ≤ D ∧ D < V.heap.size ∧ ia' = some ⟨D, 0, none⟩ ∧ cc' = L' ∧ sumTo (upd rm i 0) m = O ∧ L' = 2 * (O + RM) ∧ en' = O + RM ∧ de' = 0 ∧ at' = upd (sumTo (upd rm i 0)) i O ∧ RowTo .u8 5 V D L' L' (lay L' f at_ ln (upd rm i 0) m))

theorem Kind.below {w V V' : World} {m L cc i RM : Nat} {ia : Option Addr} {en de : Int} {at_ ln rm f : Nat → Int} {ia' : Option Addr} {L' cc' : Nat} {en' de' : Int} {at' : Nat → Int} (h : Kind w V m L cc i RM ia en de at_ ln rm f ia' L' cc' en' de' at') (hb : Below V.heap.size V V') : Kind w V' m L cc i RM ia en de at_ ln rm f ia' L' cc' en' de' at' := by
  rcases h with h | ⟨h0, D, O, h1, h2, h3, h4, h5, h6, h7, h8, h9, h10⟩
  · exact .inl h
  · exact .inr ⟨h0, D, O, h1, Nat.lt_of_lt_of_le h2 hb.size, h3, h4, h5, h6, h7, h8, h9, h10.same (hb.block D h2)⟩

def ZZEnd (w : World) (m L cc i RM : Nat) (ia : Option Addr) (en de : Int) (at_ ln rm f : Nat → Int) (e : Ending) (w' : World) : Prop :=
  ∃ A1 A2 A3 ia' L' cc' en' de' at', e = .returned (.tuple #[.slice (some ⟨A1, 0, none⟩) m m, .slice (some ⟨A2, 0, none⟩) m m, .slice (some ⟨A3, 0, none⟩) m m, .slice ia' L' cc', .int .i64 en', .int .i64 de']) ∧ Below w.heap.size w w' ∧ A1 < A2 ∧ A2 < A3 ∧
    RowTo .i64 3 w' A1 m m at' ∧ RowTo .u32 38 w' A2 m m ln ∧ RowTo .u32 38 w' A3 m m (upd rm i RM) ∧ ∃ V, w.heap.size ≤ V.heap.size ∧ V.heap.size ≤ A1 ∧ Below V.heap.size V w' ∧ Kind w V m L cc i RM ia en de at_ ln rm f ia' L' cc' en' de' at'

/-- A 'make' keeps what is there. -/
theorem Mid.made {w0 V wb : World} {C R m : Nat} {ia : Option Addr} {L cc : Nat} {en de : Int} {at_ ln rm : Nat → Int} (h : Mid w0 V C R m ia L cc en de at_ ln rm) (hb : Below V.heap.size V wb) : Mid w0 wb C R m ia L cc en de at_ ln rm :=
  ⟨h.bel.trans (hb.mono h.bel.size), h.ch.same (hb.block _ (lt_block h.ch)), h.rc.same (hb.block _ h.rc.lt)⟩

theorem Mid.other {w0 V : World} {C R m B o : Nat} {u : Value} {ia : Option Addr} {L cc : Nat} {en de : Int} {at_ ln rm : Nat → Int} (h : Mid w0 V C R m ia L cc en de at_ ln rm) (h0 : w0.heap.size ≤ B) (h1 : C ≠ B) (h2 : R ≠ B) : Mid w0 (V.setCell ⟨B, o, none⟩ u) C R m ia L cc en de at_ ln rm :=
  ⟨h.bel.setCell h0 _, h.ch.same (Below.heap_setCell V ⟨B, o, none⟩ u C h1), h.rc.same (Below.heap_setCell V ⟨B, o, none⟩ u R h2)⟩

theorem grown_below {w w' : World} (h : w.grownBy w' none) : Below w.heap.size w w' := ⟨h.os, h.tape, h.output, h.size, fun k hk => h.block k hk (by simp)⟩

theorem zz_start {w wa : World} {m : Nat} {ia : Option Addr} {L cc : Nat} {en de : Int} {at_ ln rm : Nat → Int} (hgrow : w.grownBy wa none) (hown : wa.ownsRow w.heap.size 59 11 (.slice (some ⟨w.heap.size, 0, none⟩) m m) m (madeCells (Value.agg #[.int .i64 0, .int .i64 0, .int .i64 0, .int .i64 0, .int .i64 0, .int .i64 0, .int .u32 0, .int .u32 0, .int .i32 0, .int .u8 0, .bool false]).cells (m * 11)).toList) :
    ∃ C, C = wa.heap.size ∧ w.heap.size < C ∧ Mid w (wa.alloc (.cells #[.slice (some ⟨w.heap.size, 0, none⟩) m m, .slice none 0 0, .int .i64 0, .slice ia L cc, .int .i64 en, .int .i64 de] 55)) C w.heap.size m ia L cc en de (pre at_ 0) (pre ln 0) (pre rm 0) := by
  have hr := row_block hown
  have hlt := lt_block hr
  have hb : Below w.heap.size w wa := (Below.refl _ _).grown hgrow (Nat.le_refl _) (by intro k hk; cases hk)
  refine ⟨wa.heap.size, rfl, hlt, hb.alloc hb.size _, heap_alloc_new wa _, ⟨_, (Below.heap_alloc wa _ _ hlt).trans hr, by simp [size_madeCells], fun k hk => ⟨?_, ?_, ?_⟩⟩⟩
  · rw [made_at (by omega)]
    simp only [Value.cells, pre]
    rw [show (k * 11 + 5) % (#[Value.int .i64 0, .int .i64 0, .int .i64 0, .int .i64 0, .int .i64 0, .int .i64 0, .int .u32 0, .int .u32 0, .int .i32 0, .int .u8 0, .bool false] : Array Value).size = 5 by simp]
    rfl
  · rw [made_at (by omega)]
    simp only [Value.cells, pre]
    rw [show (k * 11 + 6) % (#[Value.int .i64 0, .int .i64 0, .int .i64 0, .int .i64 0, .int .i64 0, .int .i64 0, .int .u32 0, .int .u32 0, .int .i32 0, .int .u8 0, .bool false] : Array Value).size = 6 by simp]
    rfl
  · rw [made_at (by omega)]
    simp only [Value.cells, pre]
    rw [show (k * 11 + 7) % (#[Value.int .i64 0, .int .i64 0, .int .i64 0, .int .i64 0, .int .i64 0, .int .i64 0, .int .u32 0, .int .u32 0, .int .i32 0, .int .u8 0, .bool false] : Array Value).size = 7 by simp]
    rfl

theorem Mid.len {w0 w : World} {C R m i : Nat} {ia : Option Addr} {L cc : Nat} {en de : Int} {at_ ln rm : Nat → Int} (h : Mid w0 w C R m ia L cc en de at_ ln rm) (hCR : C ≠ R) (hR0 : w0.heap.size ≤ R) (hi : i < m) (v : Int) : Mid w0 (w.setCell ⟨R, i * 11 + 6, none⟩ (.int .u32 v)) C R m ia L cc en de at_ (upd ln i v) rm :=
  ⟨h.bel.setCell hR0 _, h.ch.same (Below.heap_setCell w ⟨R, _, none⟩ _ C hCR), h.rc.setLen hi v⟩

theorem Mid.drew3 {w0 w : World} {C R m : Nat} {ia : Option Addr} {L cc : Nat} {en de : Int} {at_ ln rm : Nat → Int} (h : Mid w0 w C R m ia L cc en de at_ ln rm) : Mid w0 w.drew.drew.drew C R m ia L cc en de at_ ln rm := h.drew.drew.drew

set_option maxHeartbeats 4000000 in
set_option maxRecDepth 100000 in
theorem zz_any (a0 a1 a2 ia : Option Addr) (m c0 c1 c2 L cc i n : Nat) (at_ ln rm f : Nat → Int) (en de : Int) (w : World) (h0 : Ints .i64 w a0 m at_) (h1 : Ints .u32 w a1 m ln) (h2 : Ints .u32 w a2 m rm) (hI : Ints .u8 w ia L f)
    (hLc : L ≤ cc) (S : Sound m at_ ln rm L en de) (hi : i < m) (hn : n ≤ 65536) (hL : L ≤ 1048576) (hm : m ≤ 65536) (k1 : ∀ j, j < m → 0 ≤ ln j) (k2 : ∀ j, j < m → 0 ≤ rm j) :
    Calls Try.prog 17 #[.slice a0 m c0, .slice a1 m c1, .slice a2 m c2, .slice ia L cc, .int .i64 en, .int .i64 de, .int .i64 i, .int .i64 n] w fun e w' => ZZEnd w m L cc i (roomOf n) ia en de at_ ln rm f e w' := by
  obtain ⟨i59, j59, z59, y59, q59⟩ := info_parts Try.info59
  go_enter Try.func17, Try.ntmps17
  go_wp2_with (at_make; refine wpList_make_full _ rfl _ _ 52 rfl w.heap.size 59 i59 _ 11 Try.underlying52 j59 z59 y59 _ _ _ _ m rfl rfl rfl rfl (by rw [q59]; omega) (by unfold maxLen; omega) (Nat.le_refl _) ?_; intro wa hown hgrow)
  refine abs_world (fun Z => ∃ C, C = wa.heap.size ∧ w.heap.size < C ∧ Mid w Z C w.heap.size m ia L cc en de (pre at_ 0) (pre ln 0) (pre rm 0)) (zz_start hgrow hown) ?_
  rintro Z ⟨C, hC, hCw, hZ⟩
  rw [← hC]
  clear hown hgrow hC
  have hCR : C ≠ w.heap.size := by omega
  have hm0 : 0 < m := by omega
  obtain ⟨b0, o0, f0, g0, d0⟩ := h0.at_ hm0
  obtain ⟨b1, o1, f1, g1, d1⟩ := h1.at_ hm0
  obtain ⟨b2, o2, f2, g2, d2⟩ := h2.at_ hm0
  go_loopw [23, 41] (fun _ c wr => ∃ k : Nat, k ≤ m ∧ c = .int .i64 k ∧ Mid w wr C w.heap.size m ia L cc en de (pre at_ k) (pre ln k) (pre rm k)) (fun _ c _ => m - (intOf c).toNat)
  case atStart => exact ⟨0, Nat.zero_le _, rfl, hZ⟩
  case round =>
    obtain ⟨k, hk, rfl, hM⟩ := hrel
    clear hZ
    by_cases hlt : k < m
    · obtain ⟨x0, x3, x4, x5, xf, xl⟩ := hM.ch.cells
      obtain ⟨y5, y6, y7, yf⟩ := hM.rc.can k hlt
      have j0 := fun W => index_run (P := Try.prog) Try.underlying28 size3 f0 c0 k hlt W
      have j1 := fun W => index_run (P := Try.prog) Try.underlying29 size38 f1 c1 k hlt W
      have j2 := fun W => index_run (P := Try.prog) Try.underlying29 size38 f2 c2 k hlt W
      have rz := fun W => index_run11 (P := Try.prog) Try.underlying52 size59 (b := w.heap.size) (len := m) m k hlt W
      have v0 : wr.cell? ⟨b0, o0 + k, none⟩ = some (.int .i64 (at_ k)) := (hM.bel.cell g0).trans (d0 k hlt)
      have v1 : wr.cell? ⟨b1, o1 + k, none⟩ = some (.int .u32 (ln k)) := (hM.bel.cell g1).trans (d1 k hlt)
      have v2 : wr.cell? ⟨b2, o2 + k, none⟩ = some (.int .u32 (rm k)) := (hM.bel.cell g2).trans (d2 k hlt)
      have n0 : b0 ≠ w.heap.size := by omega
      have n1 : b1 ≠ w.heap.size := by omega
      have n2 : b2 ≠ w.heap.size := by omega
      have e5 := yf (k * 11 + 5)
      have e6 := yf (k * 11 + 6)
      have e7 := yf (k * 11 + 7)
      have hlw : w.heap.size < wr.heap.size := hM.rc.lt
      clear x3 x4 x5 xf yf d0 d1 d2
      go_wp2
      go_region
      go_wp2
      go_region
      go_wp2
      go_region
      go_wp2
      go_roundw
      case rel =>
        have h9 := ((hM.place hCR (Nat.le_refl _) hlt (at_ k)).len hCR (Nat.le_refl _) hlt (ln k)).room hCR (Nat.le_refl _) hlt (rm k)
        have h10 : Mid w _ C w.heap.size m ia L cc en de (pre at_ (k + 1)) (pre ln (k + 1)) (pre rm (k + 1)) := ⟨h9.bel, h9.ch, h9.rc.congr (fun j _ => pre_upd at_ k j) (fun j _ => pre_upd ln k j) (fun j _ => pre_upd rm k j)⟩
        exact ⟨k + 1, by omega, by go_num, h10.drew3⟩
      case measure => simp [intOf]; omega
    · obtain rfl : k = m := by omega
      have hM2 : Mid w wr C w.heap.size k ia L cc en de at_ ln rm := ⟨hM.bel, hM.ch, hM.rc.congr (fun j hj => if_pos hj) (fun j hj => if_pos hj) (fun j hj => if_pos hj)⟩
      clear hM
      obtain ⟨x0, x3, x4, x5, xf, xl⟩ := hM2.ch.cells
      have rz := fun W => index_run11 (P := Try.prog) Try.underlying52 size59 (b := w.heap.size) (len := k) k i hi W
      go_wp2_with fail
      refine (move_any C w.heap.size i k n L cc ia at_ ln rm f en de w wr hCR (by omega) (Nat.le_refl _) hM2.bel hM2.ch hM2.rc hI hLc S hi hn hL hm k1 k2).mono ?_
      rintro e V ⟨rfl, hV⟩
      obtain ⟨ia', L', cc', en', de', at', hMV, hK⟩ : ∃ ia' L' cc' en' de' at', Mid w V C w.heap.size k ia' L' cc' en' de' at' ln (upd rm i (roomOf n)) ∧ Kind w V k L cc i (roomOf n) ia en de at_ ln rm f ia' L' cc' en' de' at' := by
        rcases hV with ⟨q0, q1⟩ | ⟨q0, D, S', O, q1, q2, q3, q4, q5, q6, q7⟩
        · exact ⟨ia, L, cc, _, _, _, q1, .inl ⟨q0, rfl, rfl, rfl, rfl, rfl, rfl⟩⟩
        · exact ⟨_, S', S', _, _, _, q6, .inr ⟨q0, D, O, q1, by obtain ⟨cur, hb, _⟩ := q7; exact lt_block hb, rfl, rfl, q4, q5, rfl, rfl, rfl, q7⟩⟩
      have HK := hide hK
      clear hK hV x0 x3 x4 x5 xf xl
      obtain ⟨x0, x3, x4, x5, xf, xl⟩ := hMV.ch.cells
      obtain ⟨RM, hRM⟩ : ∃ RM, RM = roomOf n := ⟨_, rfl⟩
      rw [← hRM] at hMV
      have HRM := hide hRM
      clear hRM
      obtain ⟨i3, j3, z3, y3, q3⟩ := info_parts Try.info3
      obtain ⟨i38, j38, z38, y38, q38⟩ := info_parts Try.info38
      go_wp2_with (at_make; first | (refine wpList_make_full _ rfl _ _ 28 rfl V.heap.size 3 i3 _ 1 Try.underlying28 j3 z3 y3 _ _ _ _ k rfl rfl rfl rfl (by rw [q3]; omega) (by unfold maxLen; omega) (Nat.le_refl _) ?_; intro wb hown hgrow; have hbb := grown_below hgrow; have m0 : wb.cell? ⟨C, 0, none⟩ = some (.slice (some ⟨w.heap.size, 0, none⟩) k k) := (hMV.made hbb).ch.cells.1; have hr1 : RowTo .i64 3 wb V.heap.size k k (fun _ => 0) := RowTo.made hown; clear hown hgrow) | (refine wpList_make_full _ rfl _ _ 29 rfl wc.heap.size 38 i38 _ 1 Try.underlying29 j38 z38 y38 _ _ _ _ k rfl rfl rfl rfl (by rw [q38]; omega) (by unfold maxLen; omega) (Nat.le_refl _) ?_; intro wd hown hgrow; have hbd := grown_below hgrow; have m2 : wd.cell? ⟨C, 0, none⟩ = some (.slice (some ⟨w.heap.size, 0, none⟩) k k) := (((hMV.made hbb).made hbc).made hbd).ch.cells.1; have hr3 : RowTo .u32 38 wd wc.heap.size k k (fun _ => 0) := RowTo.made hown; clear hown hgrow) | (refine wpList_make_full _ rfl _ _ 29 rfl wb.heap.size 38 i38 _ 1 Try.underlying29 j38 z38 y38 _ _ _ _ k rfl rfl rfl rfl (by rw [q38]; omega) (by unfold maxLen; omega) (Nat.le_refl _) ?_; intro wc hown hgrow; have hbc := grown_below hgrow; have m1 : wc.cell? ⟨C, 0, none⟩ = some (.slice (some ⟨w.heap.size, 0, none⟩) k k) := ((hMV.made hbb).made hbc).ch.cells.1; have hr2 : RowTo .u32 38 wc wb.heap.size k k (fun _ => 0) := RowTo.made hown; clear hown hgrow))
      have hMd := ((hMV.made hbb).made hbc).made hbd
      have s1 : RowTo .i64 3 wd V.heap.size k 0 at' := ((hr1.same (hbc.block _ (by obtain ⟨cur, hb, _⟩ := hr1; exact lt_block hb))).same (hbd.block _ (by obtain ⟨cur, hb, _⟩ := hr1; have := lt_block hb; have := hbc.size; omega))).to0
      have s2 : RowTo .u32 38 wd wb.heap.size k 0 ln := (hr2.same (hbd.block _ (by obtain ⟨cur, hb, _⟩ := hr2; exact lt_block hb))).to0
      have s3 : RowTo .u32 38 wd wc.heap.size k 0 (upd rm i RM) := hr3.to0
      have o1 : V.heap.size < wb.heap.size := by obtain ⟨cur, hb, _⟩ := hr1; exact lt_block hb
      have o2 : wb.heap.size < wc.heap.size := by obtain ⟨cur, hb, _⟩ := hr2; exact lt_block hb
      have o3 : w.heap.size < V.heap.size := hMV.rc.lt
      have o4 : C < V.heap.size := xl
      have hbV : Below V.heap.size V wd := (hbb.trans (hbc.mono hbb.size)).trans (hbd.mono (by omega))
      clear hr1 hr2 hr3 m0 m1 m2 x0 x3 x4 x5 xf xl hbb hbc hbd hMV
      go_loopw [27, 110] (fun _ c wr => ∃ q : Nat, q ≤ k ∧ c = .int .i64 q ∧ Below V.heap.size V wr ∧ Mid w wr C w.heap.size k ia' L' cc' en' de' at' ln (upd rm i RM) ∧ RowTo .i64 3 wr V.heap.size k q at' ∧ RowTo .u32 38 wr wb.heap.size k q ln ∧ RowTo .u32 38 wr wc.heap.size k q (upd rm i RM)) (fun _ c _ => k - (intOf c).toNat)
      case atStart => exact ⟨0, Nat.zero_le _, rfl, hbV, hMd, s1, s2, s3⟩
      case round =>
        obtain ⟨q, hq, rfl, hbr, hM, p1, p2, p3⟩ := hrel
        clear hbV hMd s1 s2 s3
        obtain ⟨x0, x3, x4, x5, xf, xl⟩ := hM.ch.cells
        by_cases hlt : q < k
        · obtain ⟨y5, y6, y7, yf⟩ := hM.rc.can q hlt
          obtain ⟨⟨u1, v1⟩, e1⟩ := p1.can q hlt
          obtain ⟨⟨u2, v2⟩, e2⟩ := p2.can q hlt
          obtain ⟨⟨u3, v3⟩, e3⟩ := p3.can q hlt
          have rz := fun W => index_run11 (P := Try.prog) Try.underlying52 size59 (b := w.heap.size) (len := k) k q hlt W
          have H1 := p1.step hlt
          clear xf yf
          go_wp2
          go_roundw
          case rel =>
            have n12 : wb.heap.size ≠ V.heap.size := by omega
            have n13 : wc.heap.size ≠ V.heap.size := by omega
            have n23 : wc.heap.size ≠ wb.heap.size := by omega
            refine ⟨q + 1, by omega, by go_num, ((hbr.setCell (Nat.le_refl _) _).setCell (by exact Nat.le_of_lt o1) _).setCell (by exact Nat.le_of_lt (Nat.lt_trans o1 o2)) _, ((hM.other (by omega) (by omega) (by omega)).other (by omega) (by omega) (by omega)).other (by omega) (by omega) (by omega), ?_, ?_, ?_⟩
            · exact (H1.same (Below.heap_setCell _ ⟨_, _, none⟩ _ _ n12.symm)).same (Below.heap_setCell _ ⟨_, _, none⟩ _ _ n13.symm)
            · exact ((p2.same (Below.heap_setCell _ ⟨_, _, none⟩ _ _ n12)).step hlt).same (Below.heap_setCell _ ⟨_, _, none⟩ _ _ n23.symm)
            · exact ((p3.same (Below.heap_setCell _ ⟨_, _, none⟩ _ _ n13)).same (Below.heap_setCell _ ⟨_, _, none⟩ _ _ n23)).step hlt
          case measure => simp [intOf]; omega
        · obtain rfl : q = k := by omega
          clear xf
          go_wp2
          go_region
          go_wp2
          refine bodyPost_ret (v := .tuple #[.slice (some ⟨V.heap.size, 0, none⟩) q q, .slice (some ⟨wb.heap.size, 0, none⟩) q q, .slice (some ⟨wc.heap.size, 0, none⟩) q q, .slice ia' L' cc', .int .i64 en', .int .i64 de']) (by simp [results, Try.results17, go_sem]) rfl ?_
          rw [← HRM.out]
          refine ⟨_, _, _, _, _, _, _, _, at', rfl, hM.bel.drew, o1, o2, p1.same rfl, p2.same rfl, p3.same rfl, V, Nat.le_of_lt o3, Nat.le_refl _, hbr.drew, ?_⟩
          rw [HRM.out]
          exact HK.out
end Go.Proofs.Qxb6605264a
