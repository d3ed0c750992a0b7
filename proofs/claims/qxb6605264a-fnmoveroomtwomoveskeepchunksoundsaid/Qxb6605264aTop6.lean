import Derived.Test.Qxb6605264aPut
namespace Go.Proofs.Qxb6605264a
open Go.RowKit

attribute [local go_sem ↓] Go.wp_at_zero Go.wp_at_succ

theorem Try.info30 : (Try.prog.info? 30).map (fun i => (i.zero, i.size, i.bytes)) = some (some (.slice none 0 0), 1, 24) := by kernel_rfl

/-- The awaited ids, as far as k; the rows lie behind N. -/
def WantsTo (w : World) (W m k N : Nat) (ln : Nat → Int) (g : Nat → Nat → Int) : Prop :=
  ∃ cur, w.heap[W]? = some (.cells cur 30 (0, 0)) ∧ cur.size = m ∧ ∀ q, q < k → ∃ b, cur[q]? = some (.slice (some ⟨b, 0, none⟩) (ln q).toNat (ln q).toNat) ∧ N ≤ b ∧ RowTo .u8 5 w b (ln q).toNat (ln q).toNat (g q)

theorem WantsTo.can {w : World} {W m k N : Nat} {ln : Nat → Int} {g : Nat → Nat → Int} (h : WantsTo w W m k N ln g) (o : Nat) (ho : o < m) : (∃ v, w.cell? ⟨W, o, none⟩ = some v) ∧ w.frozen? ⟨W, o, none⟩ = false := by
  obtain ⟨cur, hb, hs, _⟩ := h
  exact ⟨⟨cur[o]'(by omega), (cell_of_row w W o cur 30 _ hb).trans (Array.getElem?_eq_getElem (by omega))⟩, frozen_of_row w W o cur 30 hb⟩

/-- The k-th row is new, and filled as far as x. -/
def WantsIn (w : World) (W m k N B l x : Nat) (ln : Nat → Int) (g : Nat → Nat → Int) : Prop :=
  ∃ cur, w.heap[W]? = some (.cells cur 30 (0, 0)) ∧ cur.size = m ∧ cur[k]? = some (.slice (some ⟨B, 0, none⟩) l l) ∧ N ≤ B ∧ RowTo .u8 5 w B l x (g k) ∧ ∀ q, q < k → ∃ b, cur[q]? = some (.slice (some ⟨b, 0, none⟩) (ln q).toNat (ln q).toNat) ∧ N ≤ b ∧ b ≠ B ∧ RowTo .u8 5 w b (ln q).toNat (ln q).toNat (g q)

theorem WantsTo.begin {w w5 : World} {W m k N l : Nat} {ln : Nat → Int} {g : Nat → Nat → Int} (h : WantsTo w W m k N ln g) (hk : k < m) (hN : N ≤ w.heap.size) (hb : Below w.heap.size w w5) (hr : RowTo .u8 5 w5 w.heap.size l l (fun _ => 0)) :
    WantsIn (w5.setCell ⟨W, k, none⟩ (.slice (some ⟨w.heap.size, 0, none⟩) l l)) W m k N w.heap.size l 0 ln g := by
  obtain ⟨cur, e1, e2, e3⟩ := h
  have e1' := (hb.block W (lt_block e1)).trans e1
  have hs : ∀ b, b ≠ W → (w5.setCell ⟨W, k, none⟩ (.slice (some ⟨w.heap.size, 0, none⟩) l l)).heap[b]? = w5.heap[b]? := fun b hb' => Below.heap_setCell w5 ⟨W, k, none⟩ _ b hb'
  have hWl := lt_block e1
  refine ⟨_, heap_setCell_same w5 W k cur 30 _ e1', by simpa using e2, by rw [Array.getElem?_setIfInBounds_self_of_lt (by omega)], hN, (hr.same (hs _ (by omega))).to0, fun q hq => ?_⟩
  obtain ⟨b, x1, x2, x3⟩ := e3 q hq
  obtain ⟨c, hc⟩ := x3.blk
  have hbl := lt_block hc
  exact ⟨b, by rw [Array.getElem?_setIfInBounds_ne (by omega)]; exact x1, x2, by omega, (x3.same (hb.block b hbl)).same (hs b (ne_of_type hc e1 (by decide)))⟩

theorem WantsIn.step {w : World} {W m k N B l x : Nat} {ln : Nat → Int} {g : Nat → Nat → Int} (h : WantsIn w W m k N B l x ln g) (hx : x < l) : WantsIn (w.setCell ⟨B, x, none⟩ (.int .u8 (g k x))) W m k N B l (x + 1) ln g := by
  obtain ⟨cur, e1, e2, e3, e4, e5, e6⟩ := h
  obtain ⟨c, hc⟩ := e5.blk
  have hs : ∀ b, b ≠ B → (w.setCell ⟨B, x, none⟩ (.int .u8 (g k x))).heap[b]? = w.heap[b]? := fun b hb' => Below.heap_setCell w ⟨B, x, none⟩ _ b hb'
  refine ⟨cur, (hs _ (ne_of_type e1 hc (by decide))).trans e1, e2, e3, e4, e5.step hx, fun q hq => ?_⟩
  obtain ⟨b, x1, x2, x3, x4⟩ := e6 q hq
  exact ⟨b, x1, x2, x3, x4.same (hs b x3)⟩

theorem WantsIn.done {w : World} {W m k N B l : Nat} {ln : Nat → Int} {g : Nat → Nat → Int} (h : WantsIn w W m k N B l l ln g) (hl : (ln k).toNat = l) : WantsTo w W m (k + 1) N ln g := by
  obtain ⟨cur, e1, e2, e3, e4, e5, e6⟩ := h
  refine ⟨cur, e1, e2, fun q hq => ?_⟩
  by_cases e : q = k
  · subst e
    exact ⟨B, by rw [hl]; exact e3, e4, by rw [hl]; exact e5⟩
  · obtain ⟨b, x1, x2, _, x4⟩ := e6 q (by omega)
    exact ⟨b, x1, x2, x4⟩

theorem WantsTo.start {w : World} {base W m N : Nat} {ln : Nat → Int} {g : Nat → Nat → Int} (h : w.ownsRow base 30 1 (.slice (some ⟨W, 0, none⟩) m m) m (madeCells (Value.slice none 0 0).cells (m * 1)).toList) : WantsTo w W m 0 N ln g :=
  ⟨_, row_block h, by simp [size_madeCells], fun q hq => absurd hq (by omega)⟩

set_option maxHeartbeats 8000000 in
set_option maxRecDepth 100000 in
theorem top6_any (a0 a1 a2 a3 : Option Addr) (l0 c0 l1 c1 l2 c2 l3 c3 : Nat) (at_ ln rm f : Nat → Int) (en de i1 n1 i2 n2 : Int) (w : World)
    (h0 : Ints .i64 w a0 l0 at_) (h1 : Ints .u32 w a1 l1 ln) (h2 : Ints .u32 w a2 l2 rm) (h3 : Ints .u8 w a3 l3 f)
    (m0 : l0 ≤ maxLen) (m1 : l1 ≤ maxLen) (m2 : l2 ≤ maxLen) (m3 : l3 ≤ maxLen) (o0 : a0 = none → l0 = 0) (o1 : a1 = none → l1 = 0) (o2 : a2 = none → l2 = 0) (o3 : a3 = none → l3 = 0)
    (k1 : ∀ j, j < l1 → 0 ≤ ln j ∧ ln j < 4294967296) (k2 : ∀ j, j < l2 → 0 ≤ rm j ∧ rm j < 4294967296) :
    Calls Try.prog 6 #[.slice a0 l0 c0, .slice a1 l1 c1, .slice a2 l2 c2, .slice a3 l3 c3, .int .i64 en, .int .i64 de, .int .i64 i1, .int .i64 n1, .int .i64 i2, .int .i64 n2] w fun e w' => e = .returned (.bool true) ∧ Below w.heap.size w w' := by
  have q0 : l0 ≤ 9223372036854775807 := m0
  have q1 : l1 ≤ 9223372036854775807 := m1
  have q2 : l2 ≤ 9223372036854775807 := m2
  have q3 : l3 ≤ 9223372036854775807 := m3
  have K1 := hide k1
  have K2 := hide k2
  clear k1 k2
  go_enter Try.func6, Try.ntmps6
  go_wp2_with fail
  refine (bytes20_any a0 a1 a2 a3 l0 c0 l1 c1 l2 c2 l3 c3 en de i1 n1 i2 n2 w).mono ?_
  rintro e w1 ⟨b, rfl, hw1⟩
  subst hw1
  cases b with
  | false =>
    go_wp2_with fail
    go_ret
    exact ⟨rfl, Below.refl _ _⟩
  | true =>
    go_wp2_with fail
    any_goals (go_ret; exact ⟨rfl, Below.refl _ _⟩)
    have g0 : l0 ≤ 32768 := by omega
    have g3 : l3 ≤ 65536 := by omega
    have g4 : 0 ≤ i1 ∧ i1 < l0 ∧ 0 ≤ i2 ∧ i2 < l0 := by omega
    have g5 : 0 ≤ n1 ∧ n1 ≤ 65536 ∧ 0 ≤ n2 ∧ n2 ≤ 65536 := by omega
    clear m0 m1 m2 m3 q0 q1 q2 q3
    refine (sound_any a0 a1 a2 a3 l0 c0 l1 c1 l2 c2 l3 c3 at_ ln rm en de w1 h0 h1 h2 (by omega) (by omega) K1.out K2.out).mono ?_
    rintro e w2 ⟨b, rfl, hb2, hbt⟩
    cases b with
    | false =>
      clear hbt
      go_wp2_with fail
      go_ret
      exact ⟨rfl, hb2⟩
    | true =>
      obtain ⟨e1, e2, hS⟩ := hbt.1 rfl
      subst e1 e2
      have HS := hide hS
      clear hbt hS
      go_wp2_with fail
      have hl : 0 < l2 := by omega
      refine (clone14_any a0 l2 c0 at_ w2 (h0.below hb2) (by omega) o0).mono ?_
      rintro e u0 ⟨a0', rfl, _, c0', b0⟩
      obtain ⟨rfl, r0⟩ := c0' hl
      go_wp2_with fail
      refine (clone15_any a1 l2 c1 ln u0 ((h1.below hb2).below b0) (by omega) o1).mono ?_
      rintro e u1 ⟨a1', rfl, _, c1', b1⟩
      obtain ⟨rfl, r1⟩ := c1' hl
      go_wp2_with fail
      refine (clone15_any a2 l2 c2 rm u1 (((h2.below hb2).below b0).below b1) (by omega) o2).mono ?_
      rintro e u2 ⟨a2', rfl, _, c2', b2⟩
      obtain ⟨rfl, r2⟩ := c2' hl
      go_wp2_with fail
      refine (clone16_any a3 l3 c3 f u2 ((((h3.below hb2).below b0).below b1).below b2) (by omega) o3).mono ?_
      rintro e u3 ⟨a3', rfl, _, c3', b3⟩
      have I0 : Ints .i64 u3 (some ⟨w2.heap.size, 0, none⟩) l2 at_ := ((r0.ints.below b1).below b2).below b3
      have I1 : Ints .u32 u3 (some ⟨u0.heap.size, 0, none⟩) l2 ln := (r1.ints.below b2).below b3
      have I2 : Ints .u32 u3 (some ⟨u1.heap.size, 0, none⟩) l2 rm := r2.ints.below b3
      have hb6 : Below w1.heap.size w1 u2 := ((hb2.trans (b0.mono hb2.size)).trans (b1.mono (Nat.le_trans hb2.size b0.size))).trans (b2.mono (Nat.le_trans hb2.size (Nat.le_trans b0.size b1.size)))
      have I3 : Ids w1.heap.size u3 a3' l3 f := fun h => ⟨u2.heap.size, (c3' h).1, hb6.size, (c3' h).2⟩
      have I4 : ∀ D, 0 < l3 → a3' = some ⟨D, 0, none⟩ → D < u3.heap.size := fun D h hD => by
        obtain ⟨D', e1, _, e3⟩ := I3 h
        rw [e1] at hD
        injection hD with hD
        injection hD with hD _ _
        obtain ⟨c, hc⟩ := e3.blk
        rw [← hD]
        exact lt_block hc
      have hb7 : Below w1.heap.size w1 u3 := hb6.trans (b3.mono hb6.size)
      have H4 := hide I4
      clear c0' c1' c2' c3' r0 r1 r2 b0 b1 b2 b3 h0 h1 h2 h3 hb2 hb6 I4 o0 o1 o2 o3
      obtain ⟨i30, j30, z30, y30, q30⟩ := info_parts Try.info30
      go_wp2_with (at_make; refine wpList_make_full _ rfl _ _ 43 rfl u3.heap.size 30 i30 _ 1 Try.underlying43 j30 z30 y30 _ _ _ _ l2 rfl rfl rfl rfl (by rw [q30]; omega) (by unfold maxLen; omega) (Nat.le_refl _) ?_; intro u4 hown hgrow)
      have hb8 : Below u3.heap.size u3 u4 := grown_below hgrow
      have hw8 : WantsTo u4 u3.heap.size l2 0 u3.heap.size ln (fun k j => f ((at_ k).toNat + j)) := WantsTo.start hown
      clear hown hgrow
      obtain ⟨i5, j5, z5, y5, q5⟩ := info_parts Try.info5
      go_loopw [23, 24, 25] (fun i23 _ _ wr => ∃ k : Nat, k ≤ l2 ∧ i23 = .int .i64 k ∧ Below u3.heap.size u3 wr ∧ WantsTo wr u3.heap.size l2 k u3.heap.size ln (fun k j => f ((at_ k).toNat + j))) (fun i23 _ _ _ => l2 - (intOf i23).toNat)
      case atStart => exact ⟨0, Nat.zero_le _, rfl, hb8, hw8⟩
      case round =>
        obtain ⟨k, hk, rfl, hbr, hwr⟩ := hrel
        clear hb8 hw8
        by_cases hkl : k < l2
        · have c1 := ((I1.below hbr).at_ hl)
          obtain ⟨bb, oo, ee, _, dd⟩ := c1
          injection ee with ee
          injection ee with ee1 ee2 _
          subst ee1
          subst ee2
          have c2 := dd k hkl
          rw [Nat.zero_add] at c2
          have kk := K1.out k hkl
          obtain ⟨Lk, hLk⟩ : ∃ Lk : Nat, ln k = Lk := ⟨(ln k).toNat, by omega⟩
          have s1 := HS.out.part.lo k hkl
          have s2 := HS.out.part.hi k hkl
          have s3 := HS.out.part.fit k hkl
          have s4 := HS.out.eL
          obtain ⟨Pk, hPk⟩ : ∃ Pk : Nat, at_ k = Pk := ⟨(at_ k).toNat, by omega⟩
          have hPL : Pk + Lk ≤ l3 := by omega
          rw [hLk] at c2
          have HL := hide hLk
          have HP := hide hPk
          clear dd hLk hPk kk s1 s2 s3 s4
          go_wp2_with (at_make; refine wpList_make_full _ rfl _ _ 30 rfl wr.heap.size 5 i5 _ 1 Try.underlying30 j5 z5 y5 _ _ _ _ Lk rfl rfl rfl rfl (by rw [q5]; omega) (by unfold maxLen; omega) (Nat.le_refl _) ?_; intro u5 hown hgrow; have hb9 := grown_below hgrow; have hr9 : RowTo .u8 5 u5 wr.heap.size Lk Lk (fun _ => 0) := RowTo.made hown; have hcan : (∃ v, u5.cell? ⟨u3.heap.size, k, none⟩ = some v) ∧ u5.frozen? ⟨u3.heap.size, k, none⟩ = false := (show WantsTo u5 u3.heap.size l2 0 0 ln (fun _ _ => 0) by (obtain ⟨cur, e1, e2, _⟩ := hwr; exact ⟨cur, (hb9.block _ (lt_block e1)).trans e1, e2, fun q hq => absurd hq (by omega)⟩)).can k hkl; clear hown hgrow; obtain ⟨⟨uu, vv⟩, ff⟩ := hcan)
          have hin := hwr.begin hkl hbr.size hb9 hr9
          have hbz : Below u3.heap.size u3 (u5.setCell ⟨u3.heap.size, k, none⟩ (.slice (some ⟨wr.heap.size, 0, none⟩) Lk Lk)) := (hbr.trans (hb9.mono hbr.size)).setCell (Nat.le_refl _) _
          have hBl : u3.heap.size ≤ wr.heap.size := hbr.size
          clear hwr hb9 hr9 vv ff c2
          go_loopw [25] (fun i25 wi => ∃ x : Nat, x ≤ Lk ∧ i25 = .int .i64 x ∧ Below u3.heap.size u3 wi ∧ WantsIn wi u3.heap.size l2 k u3.heap.size wr.heap.size Lk x ln (fun k j => f ((at_ k).toNat + j))) (fun i25 _ => Lk - (intOf i25).toNat)
          case atStart => exact ⟨0, Nat.zero_le _, rfl, hbz, hin⟩
          case round =>
            obtain ⟨x, hx, rfl, hbi, hwi⟩ := hrel
            clear hbz hin
            by_cases hxl : x < Lk
            · have hnext := hwi.step hxl
              obtain ⟨cur, e1, e2, e3, e4, e5, e6⟩ := hwi
              have cw := (cell_of_row _ u3.heap.size k cur 30 _ e1).trans e3
              obtain ⟨⟨ub, vb⟩, fb⟩ := e5.can x hxl
              obtain ⟨D, hD, hD0, hDr⟩ := I3 (by omega)
              have hDl := H4.out D (by omega) hD
              have cd := (hDr.same (hbi.block D hDl)).cell (Pk + x) (by omega)
              have ca := ((I0.below hbi).at_ hl)
              obtain ⟨bb, oo, ee, _, dd⟩ := ca
              injection ee with ee
              injection ee with ee1 ee2 _
              subst ee1
              subst ee2
              have ca := dd k hkl
              rw [Nat.zero_add, HP.out] at ca
              have hg : f ((at_ k).toNat + x) = f (Pk + x) := by rw [HP.out]; rfl
              rw [hg] at hnext
              have jx : ∀ X, (Instr.indexAt 30 (.slice a3' l3 l3) (.int .i64 ((Pk : Int) + (x : Int)))).run Try.prog X = .ok (.pointer (some ⟨D, Pk + x, none⟩)) X := fun X => by
                have := index_run (P := Try.prog) Try.underlying30 size5 (len := l3) hD l3 (Pk + x) (by omega) X
                rwa [Nat.zero_add, Int.natCast_add] at this
              have jw : ∀ X, (Instr.indexAt 43 (.slice (some ⟨u3.heap.size, 0, none⟩) l2 l2) (.int .i64 (k : Int))).run Try.prog X = .ok (.pointer (some ⟨u3.heap.size, k, none⟩)) X := fun X => by
                have := index_run (P := Try.prog) Try.underlying43 size30 (a := some ⟨u3.heap.size, 0, none⟩) (len := l2) rfl l2 k hkl X
                rwa [Nat.zero_add] at this
              clear dd hg e1 e2 e3 e4 e5 e6 hDr hD
              go_wp2
              go_region
              go_wp2
              go_roundw
              case rel => exact ⟨x + 1, by omega, by go_num, (hbi.setCell (by exact hBl) _).drew, hnext⟩
              case measure => simp [intOf]; omega
            · obtain rfl : x = Lk := by omega
              have hdone := hwi.done (by rw [HL.out]; rfl)
              go_wp2
              go_roundw
              case rel => exact ⟨k + 1, by omega, by go_num, hbi, hdone⟩
              case measure => simp [intOf]; omega
        · obtain rfl : k = l2 := by omega
          obtain ⟨j1, hj1⟩ : ∃ j : Nat, i1 = j := ⟨i1.toNat, by omega⟩
          obtain ⟨j2, hj2⟩ : ∃ j : Nat, i2 = j := ⟨i2.toNat, by omega⟩
          obtain ⟨p1, hp1⟩ : ∃ j : Nat, n1 = j := ⟨n1.toNat, by omega⟩
          obtain ⟨p2, hp2⟩ : ∃ j : Nat, n2 = j := ⟨n2.toNat, by omega⟩
          subst hj1 hj2 hp1 hp2
          have T : St w1 wr k (some ⟨w2.heap.size, 0, none⟩) (some ⟨u0.heap.size, 0, none⟩) (some ⟨u1.heap.size, 0, none⟩) a3' l3 en de u3.heap.size at_ ln rm f (fun k j => f ((at_ k).toNat + j)) := by
            refine ⟨hb7.trans (hbr.mono hb7.size), I0.below hbr, I1.below hbr, I2.below hbr, I3.below hbr, HS.out, hb7.size, ?_, fun _ _ _ _ => rfl, K1.out, K2.out⟩
            obtain ⟨cur, e1, e2, e3⟩ := hwr
            refine ⟨cur, e1, e2, fun q hq => ?_⟩
            obtain ⟨b, x1, x2, x3⟩ := e3 q hq
            exact ⟨b, x1, fun h0 hD => by have := H4.out b h0 hD; omega, x3⟩
          clear hwr hbr I0 I1 I2 I3
          go_wp2_with fail
          refine (put_any w1 wr k j1 p1 u3.heap.size l3 k k k _ _ _ a3' en de at_ ln rm f _ T (by omega) (by omega) (by omega) (by omega)).mono ?_
          rintro e v1 ⟨x0, x1, x2, x3, L', en', de', at', rm', f', g', rfl, hL', T'⟩
          go_wp2_with fail
          refine (put_any w1 v1 k j2 p2 u3.heap.size L' k k k _ _ _ x3 en' de' at' _ rm' f' g' T' (by omega) (by omega) (by omega) (by omega)).mono ?_
          rintro e v2 ⟨_, _, _, _, _, _, _, _, _, _, _, rfl, _, T2⟩
          go_wp2_with fail
          go_ret
          exact ⟨rfl, T2.bel⟩
end Go.Proofs.Qxb6605264a
