import Derived.Test.Qxb6605264aPutA
namespace Go.Proofs.Qxb6605264a
open Go.RowKit

attribute [local go_sem ↓] Go.wp_at_zero Go.wp_at_succ

/-- All is put: what the last loops read. -/
structure Done (w00 w : World) (m A1 A2 A3 : Nat) (ia : Option Addr) (L W : Nat) (at_ ln rm F : Nat → Int) (g : Nat → Nat → Int) : Prop where
  bel : Below w00.heap.size w00 w
  p1 : RowTo .i64 3 w A1 m m at_
  p2 : RowTo .u32 38 w A2 m m ln
  p3 : RowTo .u32 38 w A3 m m rm
  ids : Ids w00.heap.size w ia L F
  wnt : Wants w W m ia L ln g

theorem Done.drew {w00 w : World} {m A1 A2 A3 : Nat} {ia : Option Addr} {L W : Nat} {at_ ln rm F : Nat → Int} {g : Nat → Nat → Int} (h : Done w00 w m A1 A2 A3 ia L W at_ ln rm F g) : Done w00 w.drew m A1 A2 A3 ia L W at_ ln rm F g := ⟨h.bel.drew, h.p1, h.p2, h.p3, h.ids, h.wnt⟩

theorem size30 (w : World) : (sizeOf 30).run Try.prog w = .ok 1 w := by kernel_rfl

/-- Behind the putting each id reads as awaited. -/
theorem put_cont {w00 w1 : World} {m i n RM W L P : Nat} {at_ ln rm f at' f' : Nat → Int} {g : Nat → Nat → Int} {ia' : Option Addr} {L' cc' : Nat} {en' de' : Int} (hM : Moved w00 w1 m i n RM W L at_ ln rm f g ia' L' cc' en' de' at' f') (hi : i < m) (hP : at' i = P) (hn : n ≤ RM) {k x : Nat} (hk : k < m) (hx : (x : Int) < upd ln i n k) :
    gset g i (byteAt i) k x = over f' P n (byteAt i) ((at' k).toNat + x) := by
  by_cases e : k = i
  · subst e
    rw [upd_same] at hx
    rw [gset, if_pos rfl, hP, over, if_pos (by omega)]
    congr 1
    omega
  · rw [upd_ne _ _ e] at hx
    rw [gset, if_neg e, hM.cont k x hk e hx, over, if_neg]
    intro h
    have h0 := hM.snd.part.lo k hk
    have h1 := hM.snd.part.fit k hk
    rw [upd_ne _ _ e] at h1
    refine hM.snd.part.dis k i ((at' k) + x) hk hi e ⟨by omega, by omega⟩ ⟨by rw [hP]; omega, by rw [hP, upd_same]; omega⟩

theorem over_zero (g : Nat → Int) (off : Nat) (b : Nat → Int) : over g off 0 b = g := by
  funext x
  exact if_neg (by omega)

theorem over_step (g : Nat → Int) (off j : Nat) (b : Nat → Int) : upd (over g off j b) (off + j) (b j) = over g off (j + 1) b := by
  funext x
  unfold upd over
  by_cases e : x = off + j
  · rw [if_pos e, if_pos (by omega), e, Nat.add_sub_cancel_left]
  · rw [if_neg e]
    by_cases e2 : off ≤ x ∧ x < off + j
    · rw [if_pos e2, if_pos (by omega)]
    · rw [if_neg e2, if_neg (by omega)]

set_option maxHeartbeats 4000000 in
set_option maxRecDepth 100000 in
theorem put_any (w00 w : World) (m i n W L c0 c1 c2 : Nat) (a0 a1 a2 ia : Option Addr) (en de : Int) (at_ ln rm f : Nat → Int) (g : Nat → Nat → Int) (T : St w00 w m a0 a1 a2 ia L en de W at_ ln rm f g) (hi : i < m) (hn : n ≤ 65536) (hL : L ≤ 1048576) (hm : m ≤ 32768) :
    Calls Try.prog 21 #[.slice a0 m c0, .slice a1 m c1, .slice a2 m c2, .slice ia L L, .int .i64 en, .int .i64 de, .int .i64 i, .int .i64 n, .slice (some ⟨W, 0, none⟩) m m] w fun e w' => PutEnd w00 m i n W L ln e w' := by
  go_enter Try.func21, Try.ntmps21
  go_wp2_with fail
  refine (zz_any a0 a1 a2 ia m c0 c1 c2 L L i n at_ ln rm f en de w T.i0 T.i1 T.i2 T.ids.ints (Nat.le_refl _) T.snd hi hn hL (by omega) (fun j hj => (T.k1 j hj).1) (fun j hj => (T.k2 j hj).1)).mono ?_
  rintro e w1 ⟨A1, A2, A3, ia', L', cc', en', de', at', rfl, hb1, hA12, hA23, q1, q2, q3, V, hV0, hV1, hV2, hK⟩
  obtain ⟨RM, hRM⟩ : ∃ RM, RM = roomOf n := ⟨_, rfl⟩
  rw [← hRM] at q3 hK
  have hRM1 : n ≤ RM := by rw [hRM]; unfold roomOf; omega
  have hRM2 : RM ≤ n + 7 := by rw [hRM]; unfold roomOf; omega
  have hRM3 : RM % 8 = 0 := by rw [hRM]; unfold roomOf; omega
  clear hRM
  have r3 : w1.cell? ⟨A3, i, none⟩ = some (.int .u32 RM) := by have := q3.cell i hi; rwa [upd_same] at this
  have t1 : IntKind.u32.wrap (n : Int) = n := by rw [IntKind.wrap_u32]; omega
  have t2 : decide ((RM : Int) < (n : Int)) = false := decide_eq_false (by omega)
  have t3 : decide ((n : Int) + 8 ≤ (RM : Int)) = false := decide_eq_false (by omega)
  have t4 : ((RM : Int) % 8 != 0) = false := by simp; omega
  obtain ⟨f', hM⟩ := after_move (n := n) T hi hb1 hV2 hK hRM1 hRM2
  clear hK
  obtain rfl := hM.cc
  obtain ⟨⟨u2, v2⟩, e2⟩ := q2.can i hi
  have hlo : w00.heap.size ≤ A1 := Nat.le_trans (Nat.le_trans T.bel.size hV0) hV1
  have q2' := q2.set (i := i) (v := (n : Int)) hi
  have q1' := q1.same (w' := w1.setCell ⟨A2, i, none⟩ (.int .u32 n)) (Below.heap_setCell _ ⟨A2, i, none⟩ _ _ (by simp; omega))
  have q3' := q3.same (w' := w1.setCell ⟨A2, i, none⟩ (.int .u32 n)) (Below.heap_setCell _ ⟨A2, i, none⟩ _ _ (by simp; omega))
  have r1 : ∀ j, j < m → 0 ≤ upd ln i n j ∧ upd ln i n j < 4294967296 := fun j hj => by unfold upd; split; omega; exact T.k1 j hj
  have r2 : ∀ j, j < m → 0 ≤ upd rm i RM j ∧ upd rm i RM j < 4294967296 := fun j hj => by unfold upd; split; omega; exact T.k2 j hj
  have HM := hide hM
  have hbig := hM.big
  have hsnd := hM.snd
  clear hM
  go_wp2_with fail
  refine (sound_any (some ⟨A1, 0, none⟩) (some ⟨A2, 0, none⟩) (some ⟨A3, 0, none⟩) ia' m m m m m m cc' cc' at' (upd ln i n) (upd rm i RM) en' de' _ q1'.ints q2'.ints q3'.ints (by omega) (by omega) r1 r2).mono ?_
  rintro e w3 ⟨b, rfl, hb3, hbt⟩
  obtain rfl : b = true := hbt.2 ⟨rfl, rfl, hsnd⟩
  obtain ⟨i5, j5, z5, y5, q5⟩ := info_parts Try.info5
  have HT := hide T
  have H1 := hide r1
  have H2 := hide r2
  clear hbt hsnd r1 r2 T r3 t1 t2 t3 t4 v2 e2 u2
  go_wp2_with (at_make; refine wpList_make_full _ rfl _ _ 30 rfl w3.heap.size 5 i5 _ 1 Try.underlying30 j5 z5 y5 _ _ _ _ n rfl rfl rfl rfl (by rw [q5]; omega) (by unfold maxLen; omega) (Nat.le_refl _) ?_; intro w4 hown hgrow)
  have hN := Now.start HM.out (HT.out.bel.trans (hb1.mono HT.out.bel.size)) (by omega) q2 q1' q2' q3' hb3 (grown_below hgrow)
  have hrow : RowTo .u8 5 w4 w3.heap.size n n (fun _ => 0) := RowTo.made hown
  have hsnd := HM.out.snd
  have p0 := hsnd.part.lo i hi
  have p1 := hsnd.part.hi i hi
  have p2 := hsnd.part.fit i hi
  rw [upd_same] at p1 p2
  rw [upd_same] at p2
  have p3 := hsnd.eL
  obtain ⟨P, hP⟩ : ∃ P : Nat, at' i = P := ⟨(at' i).toNat, by omega⟩
  have hPn : P + n ≤ cc' := by omega
  have HP := hide hP
  clear hown hgrow hb3 q1 q2 q3 q1' q2' q3' hsnd p0 p1 p2 p3 hP hb1 hV0 hV1 hV2 z5 y5 q5 j5
  go_loopw [33, 34] (fun i33 _ wr => ∃ j : Nat, j ≤ n ∧ i33 = .int .i64 j ∧ Now w00 wr w3.heap.size m A1 A2 A3 ia' cc' W at' (upd ln i n) (upd rm i RM) (over f' P j (byteAt i)) ln g ∧ RowTo .u8 5 wr w3.heap.size n j (byteAt i)) (fun i33 _ _ => n - (intOf i33).toNat)
  case atStart => exact ⟨0, Nat.zero_le _, rfl, by rw [over_zero]; exact hN, hrow.to0⟩
  case round =>
    obtain ⟨j, hj, rfl, hW, hr⟩ := hrel
    clear hN hrow
    by_cases hlt : j < n
    · obtain ⟨D, hD, hD0, hDr⟩ := hW.ids (by omega)
      obtain ⟨⟨u1, v1⟩, e1⟩ := hDr.can (P + j) (by omega)
      obtain ⟨⟨u2, v2⟩, e2⟩ := hr.can j hlt
      have v3 := hW.p1.cell i hi
      rw [HP.out] at v3
      have hDI : w3.heap.size ≠ D := by have := hW.hi.2.2.2.2 D (by omega) hD; omega
      have jx : ∀ X, (Instr.indexAt 30 (.slice ia' cc' cc') (.int .i64 ((P : Int) + (j : Int)))).run Try.prog X = .ok (.pointer (some ⟨D, P + j, none⟩)) X := fun X => by
        have := index_run (P := Try.prog) Try.underlying30 size5 (len := cc') hD cc' (P + j) (by omega) X
        rwa [Nat.zero_add, Int.natCast_add] at this
      have H1' := (hW.put hD (x := P + j) (by omega) (byteAt i j)).new (I := w3.heap.size) (o := j) (Nat.le_refl _) (.int .u8 (byteAt i j))
      have H2' : RowTo .u8 5 ((wr.setCell ⟨D, P + j, none⟩ (.int .u8 (byteAt i j))).setCell ⟨w3.heap.size, j, none⟩ (.int .u8 (byteAt i j))) w3.heap.size n (j + 1) (byteAt i) := (hr.same (Below.heap_setCell wr ⟨D, _, none⟩ _ _ hDI)).step hlt
      rw [over_step] at H1'
      have hb8 : IntKind.u8.wrap (7 * (j : Int) + 3 * (i : Int) + 1) = byteAt i j := rfl
      clear hDr
      go_wp2
      go_roundw
      case rel => exact ⟨j + 1, by omega, by go_num, H1', H2'⟩
      case measure => simp [intOf]; omega
    · obtain rfl : j = n := by omega
      obtain ⟨cur, w1', w2', w3'⟩ := hW.wnt
      have v1 : ∃ v, wr.cell? ⟨W, i, none⟩ = some v := ⟨cur[i]'(by omega), (cell_of_row wr W i cur 30 _ w1').trans (Array.getElem?_eq_getElem (by omega))⟩
      obtain ⟨v1, e1⟩ := v1
      have e2 := frozen_of_row wr W i cur 30 w1'
      have hA := hW.await hr hi HT.out.wW
      clear w3' w1' w2'
      go_wp2
      refine abs_world (fun Z => Done w00 Z m A1 A2 A3 ia' cc' W at' (upd ln i j) (upd rm i RM) (over f' P j (byteAt i)) (gset g i (byteAt i))) ⟨hA.1, hA.2.1, hA.2.2.1, hA.2.2.2.1, hA.2.2.2.2.1, hA.2.2.2.2.2⟩ ?_
      rintro Z hZ
      clear hA hW hr v1 e1 e2
      go_loopw [35, 36] (fun i35 _ wr => ∃ k : Nat, k ≤ m ∧ i35 = .int .i64 k ∧ Done w00 wr m A1 A2 A3 ia' cc' W at' (upd ln i j) (upd rm i RM) (over f' P j (byteAt i)) (gset g i (byteAt i))) (fun i35 _ _ => m - (intOf i35).toNat)
      case atStart => exact ⟨0, Nat.zero_le _, rfl, hZ⟩
      case round =>
        obtain ⟨k, hk, rfl, hR⟩ := hrel
        clear hZ
        by_cases hkm : k < m
        · obtain ⟨cur, w1', w2', w3'⟩ := hR.wnt
          obtain ⟨b, x1, x2, x3⟩ := w3' k hkm
          have g1 := H1.out k hkm
          obtain ⟨Lk, hLk⟩ : ∃ Lk : Nat, upd ln i j k = Lk := ⟨(upd ln i j k).toNat, by omega⟩
          rw [hLk] at x1 x3 g1
          have hLk2 : ((Lk : Nat) : Int).toNat = Lk := by omega
          rw [hLk2] at x1 x3
          have c2 := hR.p2.cell k hkm
          rw [hLk] at c2
          have cw : wr.cell? ⟨W, k, none⟩ = some (.slice (some ⟨b, 0, none⟩) Lk Lk) := (cell_of_row wr W k cur 30 _ w1').trans x1
          have jw : ∀ X, (Instr.indexAt 43 (.slice (some ⟨W, 0, none⟩) m m) (.int .i64 (k : Int))).run Try.prog X = .ok (.pointer (some ⟨W, k, none⟩)) X := fun X => by
            have := index_run (P := Try.prog) Try.underlying43 size30 (a := some ⟨W, 0, none⟩) (len := m) rfl m k hkm X
            rwa [Nat.zero_add] at this
          have HL := hide hLk
          clear x1 x2 x3 w1' w2' w3' hLk
          go_wp2
          go_region
          go_wp2
          have hcap : ∀ x : Nat, x < Lk → gset g i (byteAt i) k x = over f' P j (byteAt i) ((at' k).toNat + x) := fun x hx => put_cont HM.out hi HP.out hRM1 hkm (by rw [HL.out]; omega)
          have hin : ∃ Pk : Nat, at' k = Pk ∧ Pk + Lk ≤ cc' := by
            have h0 := HM.out.snd.part.lo k hkm
            have h1 := HM.out.snd.part.fit k hkm
            have h2 := HM.out.snd.part.hi k hkm
            have h3 := HM.out.snd.eL
            rw [HL.out] at h1
            exact ⟨(at' k).toNat, by omega, by omega⟩
          obtain ⟨Pk, hPk, hPL⟩ := hin
          rw [hPk] at hcap
          have hcap2 : ∀ x : Nat, x < Lk → gset g i (byteAt i) k x = over f' P j (byteAt i) (Pk + x) := hcap
          have HC := hide hcap2
          have HPk := hide hPk
          clear hcap hcap2 hPk c2 cw
          go_loopw [36] (fun i36 wi => ∃ x : Nat, x ≤ Lk ∧ i36 = .int .i64 x ∧ Done w00 wi m A1 A2 A3 ia' cc' W at' (upd ln i j) (upd rm i RM) (over f' P j (byteAt i)) (gset g i (byteAt i))) (fun i36 _ => Lk - (intOf i36).toNat)
          case atStart => exact ⟨0, Nat.zero_le _, rfl, hR.drew⟩
          case round =>
            obtain ⟨x, hx, rfl, hI⟩ := hrel
            clear hR
            obtain ⟨cur, w1', w2', w3'⟩ := hI.wnt
            obtain ⟨b', x1, x2, x3⟩ := w3' k hkm
            rw [HL.out, hLk2] at x1 x3
            have cw := (cell_of_row _ W k cur 30 _ w1').trans x1
            by_cases hxl : x < Lk
            · have cb := x3.cell x hxl
              obtain ⟨D, hD, hD0, hDr⟩ := hI.ids (by omega)
              have cd := hDr.cell (Pk + x) (by omega)
              have ca := hI.p1.cell k hkm
              rw [HPk.out] at ca
              rw [← HC.out x hxl] at cd
              have jx : ∀ X, (Instr.indexAt 30 (.slice ia' cc' cc') (.int .i64 ((Pk : Int) + (x : Int)))).run Try.prog X = .ok (.pointer (some ⟨D, Pk + x, none⟩)) X := fun X => by
                have := index_run (P := Try.prog) Try.underlying30 size5 (len := cc') hD cc' (Pk + x) (by omega) X
                rwa [Nat.zero_add, Int.natCast_add] at this
              have hI' := hI.drew
              clear x1 x2 x3 w1' w2' w3' hDr hI
              go_wp2
              go_region
              go_wp2
              go_roundw
              case rel => exact ⟨x + 1, by omega, by go_num, hI'⟩
              case measure => simp [intOf]; omega
            · obtain rfl : x = Lk := by omega
              clear x1 x2 x3 w1' w2' w3'
              go_wp2
              go_roundw
              case rel => exact ⟨k + 1, by omega, by go_num, hI⟩
              case measure => simp [intOf]; omega
        · obtain rfl : k = m := by omega
          go_wp2
          refine bodyPost_ret (v := .tuple #[.slice (some ⟨A1, 0, none⟩) k k, .slice (some ⟨A2, 0, none⟩) k k, .slice (some ⟨A3, 0, none⟩) k k, .slice ia' cc' cc', .int .i64 en', .int .i64 de', .bool true]) (by simp [results, Try.results21, go_sem]) rfl ?_
          exact ⟨_, _, _, _, cc', _, _, at', upd rm i RM, _, _, rfl, hbig, ⟨hR.bel, hR.p1.ints, hR.p2.ints, hR.p3.ints, hR.ids, HM.out.snd, HT.out.wW, hR.wnt, fun q x hq hx => put_cont HM.out hi HP.out hRM1 hq hx, H1.out, H2.out⟩⟩
end Go.Proofs.Qxb6605264a
