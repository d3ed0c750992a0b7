import Derived.Test.Qxb6605264aPutA
import Derived.Test.Qxb6605264aSame
namespace Go.Proofs.Qxb6605264a
open Go.RowKit

attribute [local go_sem ↓] Go.wp_at_zero Go.wp_at_succ

theorem Ints.cell0 {K : IntKind} {w : World} {B len : Nat} {f : Nat → Int} (h : Ints K w (some ⟨B, 0, none⟩) len f) (j : Nat) (hj : j < len) : w.cell? ⟨B, j, none⟩ = some (.int K (f j)) := by
  obtain ⟨b, o, e, _, d⟩ := h.at_ (by omega)
  injection e with e
  injection e with e1 e2 _
  subst e1
  subst e2
  have := d j hj
  rwa [Nat.zero_add] at this

theorem index_run0 {P : Program} {t e : TypeId} (hu : P.underlying t = some (.slice e)) (hsz : ∀ w, (sizeOf e).run P w = .ok 1 w) (B len k : Nat) (hk : k < len) (w : World) :
    (Instr.indexAt t (.slice (some ⟨B, 0, none⟩) len len) (.int .i64 (k : Int))).run P w = .ok (.pointer (some ⟨B, k, none⟩)) w := by
  have := index_run (P := P) hu hsz (a := some ⟨B, 0, none⟩) (len := len) rfl len k hk w
  rwa [Nat.zero_add] at this

/-- Place x lies in the id of one of the first k records, other than i, laid out anew. -/
def Cov (i : Nat) (r0 ln : Nat → Int) (k x : Nat) : Prop := ∃ q, q < k ∧ q ≠ i ∧ (sumTo r0 q).toNat ≤ x ∧ x < (sumTo r0 q).toNat + (ln q).toNat

theorem Cov.skip (i : Nat) (r0 ln : Nat → Int) (x : Nat) : Cov i r0 ln i x ↔ Cov i r0 ln (i + 1) x := by
  constructor
  · rintro ⟨q, h1, h2⟩
    exact ⟨q, by omega, h2⟩
  · rintro ⟨q, h1, h2, h3⟩
    exact ⟨q, by omega, h2, h3⟩

theorem Cov.snoc {i k A l : Nat} {r0 ln : Nat → Int} (hk : k ≠ i) (hA : sumTo r0 k = A) (hl : ln k = l) (x : Nat) : (Cov i r0 ln k x ∨ (A ≤ x ∧ x < A + l)) ↔ Cov i r0 ln (k + 1) x := by
  constructor
  · rintro (⟨q, h1, h2⟩ | h)
    · exact ⟨q, by omega, h2⟩
    · exact ⟨k, by omega, hk, by rw [hA, hl]; omega⟩
  · rintro ⟨q, h1, h2, h3⟩
    by_cases e : q = k
    · subst e
      rw [hA, hl] at h3
      exact .inr (by omega)
    · exact .inl ⟨q, by omega, h2, h3⟩

set_option maxHeartbeats 8000000 in
set_option maxRecDepth 100000 in
theorem top5_any (a0 a1 a2 a3 : Option Addr) (l0 c0 l1 c1 l2 c2 l3 c3 : Nat) (at_ ln rm f : Nat → Int) (en de i1 n1 : Int) (w : World)
    (h0 : Ints .i64 w a0 l0 at_) (h1 : Ints .u32 w a1 l1 ln) (h2 : Ints .u32 w a2 l2 rm) (h3 : Ints .u8 w a3 l3 f)
    (m0 : l0 ≤ maxLen) (m1 : l1 ≤ maxLen) (m2 : l2 ≤ maxLen) (m3 : l3 ≤ maxLen) (o0 : a0 = none → l0 = 0) (o1 : a1 = none → l1 = 0) (o2 : a2 = none → l2 = 0) (o3 : a3 = none → l3 = 0)
    (k1 : ∀ j, j < l1 → 0 ≤ ln j ∧ ln j < 4294967296) (k2 : ∀ j, j < l2 → 0 ≤ rm j ∧ rm j < 4294967296) :
    Calls Try.prog 5 #[.slice a0 l0 c0, .slice a1 l1 c1, .slice a2 l2 c2, .slice a3 l3 c3, .int .i64 en, .int .i64 de, .int .i64 i1, .int .i64 n1] w fun e w' => e = .returned (.bool true) ∧ Below w.heap.size w w' := by
  have q0 : l0 ≤ 9223372036854775807 := m0
  have q1 : l1 ≤ 9223372036854775807 := m1
  have q2 : l2 ≤ 9223372036854775807 := m2
  have q3 : l3 ≤ 9223372036854775807 := m3
  have K1 := hide k1
  have K2 := hide k2
  clear k1 k2
  go_enter Try.func5, Try.ntmps5
  go_wp2_with fail
  refine (bytes12_any a0 a1 a2 a3 l0 c0 l1 c1 l2 c2 l3 c3 en de i1 n1 w).mono ?_
  rintro e w1 ⟨b, rfl, hw1⟩
  subst hw1
  cases b with
  | false =>
    go_wp2_with fail
    go_ret
    exact ⟨rfl, Below.refl _ _⟩
  | true =>
    go_wp2_with fail
    any_goals (go_ret; exact ⟨rfl, Below.refl _ _⟩)
    have g0 : l0 ≤ 32768 := by omega
    have g3 : l3 ≤ 65536 := by omega
    have g4 : 0 ≤ i1 ∧ i1 < l0 := by omega
    have g5 : 0 ≤ n1 ∧ n1 ≤ 65536 := by omega
    clear m0 m1 m2 m3 q0 q1 q2 q3
    refine (sound_any a0 a1 a2 a3 l0 c0 l1 c1 l2 c2 l3 c3 at_ ln rm en de w1 h0 h1 h2 (by omega) (by omega) K1.out K2.out).mono ?_
    rintro e w2 ⟨b, rfl, hb2, hbt⟩
    cases b with
    | false =>
      clear hbt
      go_wp2_with fail
      go_ret
      exact ⟨rfl, hb2⟩
    | true =>
      obtain ⟨e1, e2, hS⟩ := hbt.1 rfl
      subst e1 e2
      have HS := hide hS
      clear hbt hS
      go_wp2_with fail
      have hl : 0 < l2 := by omega
      refine (clone14_any a0 l2 c0 at_ w2 (h0.below hb2) (by omega) o0).mono ?_
      rintro e u0 ⟨a0', rfl, _, c0', b0⟩
      obtain ⟨rfl, r0⟩ := c0' hl
      go_wp2_with fail
      refine (clone15_any a1 l2 c1 ln u0 ((h1.below hb2).below b0) (by omega) o1).mono ?_
      rintro e u1 ⟨a1', rfl, _, c1', b1⟩
      obtain ⟨rfl, r1⟩ := c1' hl
      go_wp2_with fail
      refine (clone15_any a2 l2 c2 rm u1 (((h2.below hb2).below b0).below b1) (by omega) o2).mono ?_
      rintro e u2 ⟨a2', rfl, _, c2', b2⟩
      obtain ⟨rfl, r2⟩ := c2' hl
      go_wp2_with fail
      refine (clone16_any a3 l3 c3 f u2 ((((h3.below hb2).below b0).below b1).below b2) (by omega) o3).mono ?_
      rintro e u3 ⟨a3', rfl, _, c3', b3⟩
      have I0 : Ints .i64 u3 (some ⟨w2.heap.size, 0, none⟩) l2 at_ := ((r0.ints.below b1).below b2).below b3
      have I1 : Ints .u32 u3 (some ⟨u0.heap.size, 0, none⟩) l2 ln := (r1.ints.below b2).below b3
      have I2 : Ints .u32 u3 (some ⟨u1.heap.size, 0, none⟩) l2 rm := r2.ints.below b3
      have hb6 : Below w1.heap.size w1 u2 := ((hb2.trans (b0.mono hb2.size)).trans (b1.mono (Nat.le_trans hb2.size b0.size))).trans (b2.mono (Nat.le_trans hb2.size (Nat.le_trans b0.size b1.size)))
      have I3 : Ids w1.heap.size u3 a3' l3 f := fun h => ⟨u2.heap.size, (c3' h).1, hb6.size, (c3' h).2⟩
      have hb7 : Below w1.heap.size w1 u3 := hb6.trans (b3.mono hb6.size)
      clear c0' c1' c2' c3' r0 r1 r2 b0 b1 b2 b3 h0 h1 h2 h3 hb2 hb6 o0 o1 o2 o3
      obtain ⟨i, hi⟩ : ∃ j : Nat, i1 = j := ⟨i1.toNat, by omega⟩
      obtain ⟨n, hn⟩ : ∃ j : Nat, n1 = j := ⟨n1.toNat, by omega⟩
      subst hi hn
      go_wp2_with fail
      refine (zz_any (some ⟨w2.heap.size, 0, none⟩) (some ⟨u0.heap.size, 0, none⟩) (some ⟨u1.heap.size, 0, none⟩) a3' l2 l2 l2 l2 l3 l3 i n at_ ln rm f en de u3 I0 I1 I2 I3.ints (Nat.le_refl _) HS.out (by omega) (by omega) (by omega) (by omega) (fun j hj => (K1.out j hj).1) (fun j hj => (K2.out j hj).1)).mono ?_
      rintro e u4 ⟨A1, A2, A3, ia', L', cc', en', de', at', rfl, hb8, hA12, hA23, R1, R2, R3, V, hV0, hV1, hbV, hK⟩
      obtain ⟨RM, hRM⟩ : ∃ RM, RM = roomOf n := ⟨_, rfl⟩
      rw [← hRM] at hK R3
      have HK := hide hK
      have hroom : (n : Int) + -((n : Int) % 8) % 8 = (RM : Int) := by rw [hRM]; unfold roomOf; omega
      have hRM2 : RM ≤ 65600 := by rw [hRM]; unfold roomOf; omega
      clear hK hRM
      have hil : i < l2 := by omega
      have J0 := I0.below hb8
      have J1 := I1.below hb8
      have J2 := I2.below hb8
      have J3 := I3.below hb8
      have G0 := R1.ints
      have G1 := R2.ints
      have G2 := R3.ints
      have hb10 : Below w1.heap.size w1 u4 := hb7.trans (hb8.mono hb7.size)
      clear R1 R2 R3 I0 I1 I2 I3 hb8 hb7
      obtain ⟨P0, hP0⟩ : ∃ B, w2.heap.size = B := ⟨_, rfl⟩
      obtain ⟨P1, hP1⟩ : ∃ B, u0.heap.size = B := ⟨_, rfl⟩
      obtain ⟨P2, hP2⟩ : ∃ B, u1.heap.size = B := ⟨_, rfl⟩
      rw [hP0] at J0
      rw [hP1] at J1
      rw [hP2] at J2
      rw [hP0, hP1, hP2]
      clear hP0 hP1 hP2
      have ci := J2.cell0 i hil
      have ri := K2.out i hil
      go_wp2_with fail
      refine (same18_any _ _ l2 l2 l2 ln u4 G1 J1 (by omega)).mono ?_
      rintro e u5 ⟨rfl, hb9⟩
      clear ci
      have cg := (G2.below hb9).cell0 i hil
      rw [upd_same] at cg
      go_wp2_with fail
      clear cg
      go_loopw [26] (fun c wr => ∃ k : Nat, k ≤ l2 ∧ c = .int .i64 k ∧ Below u4.heap.size u4 wr) (fun c _ => l2 - (intOf c).toNat)
      case atStart => exact ⟨0, Nat.zero_le _, rfl, hb9⟩
      case round =>
        obtain ⟨k, hk, rfl, hbr⟩ := hrel
        clear hb9
        by_cases hkl : k < l2
        · have v1 := (G2.below hbr).cell0 k hkl
          have v2 := (J2.below hbr).cell0 k hkl
          have j1 := fun W => index_run0 (P := Try.prog) Try.underlying29 size38 A3 l2 k hkl W
          have j2 := fun W => index_run0 (P := Try.prog) Try.underlying29 size38 P2 l2 k hkl W
          by_cases e : k = i
          · subst e
            go_wp2
            go_region
            all_goals go_wp2
            go_roundw
            case rel => exact ⟨k + 1, by omega, by go_num, hbr.drew⟩
            case measure => simp [intOf]; omega
          · rw [upd_ne _ _ e] at v1
            have t1 : ((k : Int) != (i : Int)) = true := by simp; omega
            go_wp2
            go_region
            all_goals go_wp2
            go_roundw
            case rel => exact ⟨k + 1, by omega, by go_num, hbr.drew⟩
            case measure => simp [intOf]; omega
        · obtain rfl : l2 = k := by omega
          have s1 := HS.out.e0
          have s2 := HS.out.eL
          have s3 := HS.out.d0
          have s4 := HS.out.dE
          rcases HK.out with ⟨q0, y1, y2, y3, rfl, rfl, rfl⟩ | ⟨q0, D, O, q1, q2, rfl, y5, q4, y6, rfl, rfl, rfl, q8⟩
          · obtain rfl := y1.symm
            obtain rfl := y2.symm
            obtain rfl := y3.symm
            have hw1 : IntKind.i64.wrap (en + RM) = en + RM := by rw [IntKind.wrap_i64]; omega
            have hw2 : IntKind.i64.wrap (de + rm i) = de + rm i := by rw [IntKind.wrap_i64]; omega
            have t1 : decide (en + (RM : Int) ≤ (l3 : Int)) = true := decide_eq_true (by omega)
            go_wp2_with fail
            go_loopw [27] (fun c wr => ∃ k : Nat, k ≤ l2 ∧ c = .int .i64 k ∧ Below u4.heap.size u4 wr) (fun c _ => l2 - (intOf c).toNat)
            case atStart => exact ⟨0, Nat.zero_le _, rfl, hbr⟩
            case round =>
              obtain ⟨k, hk, rfl, hbr⟩ := hrel
              by_cases hkl : k < l2
              · have v1 := (G0.below hbr).cell0 k hkl
                have v2 := (J0.below hbr).cell0 k hkl
                have j1 := fun W => index_run0 (P := Try.prog) Try.underlying28 size3 A1 l2 k hkl W
                have j2 := fun W => index_run0 (P := Try.prog) Try.underlying28 size3 P0 l2 k hkl W
                by_cases e : k = i
                · subst e
                  go_wp2
                  go_region
                  all_goals go_wp2
                  go_roundw
                  case rel => exact ⟨k + 1, by omega, by go_num, hbr.drew⟩
                  case measure => simp [intOf]; omega
                · rw [upd_ne _ _ e] at v1
                  have t1 : ((k : Int) != (i : Int)) = true := by simp; omega
                  go_wp2
                  go_region
                  all_goals go_wp2
                  go_roundw
                  case rel => exact ⟨k + 1, by omega, by go_num, hbr.drew⟩
                  case measure => simp [intOf]; omega
              · obtain rfl : l2 = k := by omega
                have v1 := (G0.below hbr).cell0 i hil
                rw [upd_same] at v1
                have j1 := fun W => index_run0 (P := Try.prog) Try.underlying28 size3 A1 l2 i hil W
                go_wp2_with fail
                refine (same19_any a3' a3' l3 l3 l3 f wr ((J3.below hbr).ints) ((J3.below hbr).ints) (by omega)).mono ?_
                rintro e u6 ⟨rfl, hb11⟩
                go_wp2_with fail
                go_ret
                exact ⟨rfl, hb10.trans ((hbr.mono hb10.size).trans (hb11.mono (Nat.le_trans hb10.size hbr.size)))⟩
          · obtain rfl := y5.symm
            have hO1 : (O : Int) ≤ en := by
              have x1 := sumTo_upd rm i 0 l2 hil
              have x2 := HS.out.sum
              have x3 := ri.1
              omega
            have hk2 : ∀ j, j < l2 → 0 ≤ rm j := fun j hj => (K2.out j hj).1
            have hmono : ∀ k, k ≤ l2 → 0 ≤ sumTo (upd rm i 0) k ∧ sumTo (upd rm i 0) k ≤ O := fun k hk => ⟨sumTo_nonneg (fun j hj => r0_nonneg hk2 j (by omega)), q4 ▸ sumTo_mono (fun q hq => r0_nonneg hk2 q hq) hk⟩
            have HM := hide hmono
            have HK2 := hide hk2
            have H4 := hide q4
            have H8 := hide q8
            have hw1 : IntKind.i64.wrap (en + RM) = en + RM := by rw [IntKind.wrap_i64]; omega
            have t1 : decide (en + (RM : Int) ≤ (l3 : Int)) = false := decide_eq_false (by omega)
            have H6 := hide y6
            have GD : Ints .u8 u4 (some ⟨D, 0, none⟩) L' (lay L' f at_ ln (upd rm i 0) l2) := (q8.same (hbV.block D q2)).ints
            have hL' : L' ≤ 300000 := by omega
            have hOL : O ≤ L' := by omega
            clear hmono hk2 q4 q8 q0 y6
            go_wp2_with fail
            go_loopw [28, 29, 30] (fun o p c wr => ∃ k X : Nat, k ≤ l2 ∧ c = .int .i64 k ∧ o = .int .i64 X ∧ Hid (sumTo (upd rm i 0) k = X) ∧ Hid (i < k → p = .int .i64 (sumTo (upd rm i 0) i)) ∧ Below u4.heap.size u4 wr) (fun _ _ c _ => l2 - (intOf c).toNat)
            case atStart => exact ⟨0, 0, Nat.zero_le _, rfl, rfl, rfl, fun h => absurd h (by omega), hbr⟩
            case round =>
              obtain ⟨k, X, hk, rfl, rfl, hX, hp, hbr⟩ := hrel
              have hX1 := HM.out k hk
              rw [hX.out] at hX1
              by_cases hkl : k < l2
              · have v1 := (G0.below hbr).cell0 k hkl
                have v2 := (J2.below hbr).cell0 k hkl
                have rk := K2.out k hkl
                by_cases e : k = i
                · subst e
                  go_wp2
                  go_roundw
                  case rel => exact ⟨k + 1, X, by omega, by go_num, rfl, by show sumTo _ (k + 1) = _; rw [sumTo, upd_same, hX.out, Int.add_zero], fun _ => by rw [hX.out], hbr⟩
                  case measure => simp [intOf]; omega
                · rw [upd_ne _ _ e, hX.out] at v1
                  obtain ⟨R, hR⟩ : ∃ R : Nat, rm k = R := ⟨(rm k).toNat, by omega⟩
                  rw [hR] at v2
                  have HR := hide hR
                  have hs : sumTo (upd rm i 0) (k + 1) = ((X + R : Nat) : Int) := by rw [sumTo, upd_ne _ _ e, hX.out, hR]; omega
                  have hs2 := HM.out (k + 1) (by omega)
                  rw [hs] at hs2
                  have t1 : ((k : Int) == (i : Int)) = false := by simp; omega
                  have HS1 := hide hs
                  clear hs hR rk
                  go_wp2
                  go_roundw
                  case rel => exact ⟨k + 1, X + R, by omega, by go_num, by go_num, HS1, fun h => hp.out (by omega), hbr⟩
                  case measure => simp [intOf]; omega
              · obtain rfl : l2 = k := by omega
                obtain rfl : X = O := by have := hX.out; rw [H4.out] at this; omega
                have hp' := hp.out hil
                obtain ⟨Pl, hPl⟩ : ∃ Pl : Nat, sumTo (upd rm i 0) i = Pl := ⟨(sumTo (upd rm i 0) i).toNat, by have := HM.out i (by omega); omega⟩
                rw [hPl] at hp'
                subst hp'
                have hPl2 : Pl ≤ 65536 := by have := HM.out i (by omega); omega
                have HPl := hide hPl
                clear hPl
                have v1 := (G0.below hbr).cell0 i hil
                rw [upd_same] at v1
                have hsz : 2 * ((X : Int) + RM) = L' := by rw [H6.out]; omega
                clear hX hp
                obtain ⟨i4, j4, z4, y4, q4⟩ := info_parts Try.info4
                go_wp2_with (at_make; refine wpList_make_full _ rfl _ _ 41 rfl wr.heap.size 4 i4 (.bool false) 1 Try.underlying41 j4 z4 y4 _ _ _ _ L' rfl rfl rfl rfl (by rw [q4]; omega) (by unfold maxLen; omega) (Nat.le_refl _) ?_; intro u7 hown hgrow)
                have hb12 : Below u4.heap.size u4 u7 := hbr.trans ((grown_below hgrow).mono hbr.size)
                have hB0 : u4.heap.size ≤ wr.heap.size := hbr.size
                have hu7 := Bools.made hown
                obtain ⟨B, hB⟩ : ∃ B, wr.heap.size = B := ⟨_, rfl⟩
                rw [hB] at hB0 hu7
                rw [hB]
                clear hown hgrow hbr v1 hB
                go_loopw [33, 34, 35] (fun c _ _ wr => ∃ k : Nat, k ≤ l2 ∧ c = .int .i64 k ∧ Below u4.heap.size u4 wr ∧ Bools wr B L' (fun x => Cov i (upd rm i 0) ln k x)) (fun c _ _ _ => l2 - (intOf c).toNat)
                case atStart => exact ⟨0, Nat.zero_le _, rfl, hb12, hu7.turned (fun x _ => ⟨False.elim, fun ⟨q, hq, _⟩ => absurd hq (by omega)⟩)⟩
                case round =>
                  obtain ⟨k, hk, rfl, hbr, hu⟩ := hrel
                  clear hb12 hu7
                  by_cases hkl : k < l2
                  · by_cases e : k = i
                    · subst e
                      have HU := hu.turned (q := fun x => Cov k (upd rm k 0) ln (k + 1) x) (fun x _ => Cov.skip k (upd rm k 0) ln x)
                      clear hu
                      go_wp2
                      go_roundw
                      case rel => exact ⟨k + 1, by omega, by go_num, hbr, HU⟩
                      case measure => simp [intOf]; omega
                    · have t1 : ((k : Int) == (i : Int)) = false := by simp; omega
                      have v1 := (J1.below hbr).cell0 k hkl
                      have kk := K1.out k hkl
                      obtain ⟨Lk, hLk⟩ : ∃ Lk : Nat, ln k = Lk := ⟨(ln k).toNat, by omega⟩
                      have x1 := HS.out.part.lo k hkl
                      have x2 := HS.out.part.hi k hkl
                      have x3 := HS.out.part.fit k hkl
                      obtain ⟨Pk, hPk⟩ : ∃ Pk : Nat, at_ k = Pk := ⟨(at_ k).toNat, by omega⟩
                      have x4 := HM.out k hk
                      obtain ⟨Ak, hAk⟩ : ∃ Ak : Nat, sumTo (upd rm i 0) k = Ak := ⟨(sumTo (upd rm i 0) k).toNat, by omega⟩
                      have x5 := packed_end (i := i) HK2.out hkl e
                      rw [H4.out] at x5
                      have hPL : Pk + Lk ≤ l3 := by omega
                      have hAL : Ak + Lk ≤ L' := by omega
                      have hlay : ∀ j, j < Lk → lay L' f at_ ln (upd rm i 0) l2 (Ak + j) = f (Pk + j) := fun j hj => by
                        have := lay_at (f := f) (j := j) (SZ := L') HS.out HK2.out H4.out hkl e (by omega) hOL
                        rw [hAk, hPk] at this
                        exact this
                      rw [hLk] at v1
                      have HL := hide hLk
                      have HP := hide hPk
                      have HA := hide hAk
                      have HLAY := hide hlay
                      clear hLk hPk hAk hlay x1 x2 x3 x4 x5 kk
                      go_wp2_with fail
                      clear v1
                      go_loopw [35] (fun c wi => ∃ j : Nat, j ≤ Lk ∧ c = .int .i64 j ∧ Below u4.heap.size u4 wi ∧ Bools wi B L' (fun x => Cov i (upd rm i 0) ln k x ∨ (Ak ≤ x ∧ x < Ak + j))) (fun c _ => Lk - (intOf c).toNat)
                      case atStart => exact ⟨0, Nat.zero_le _, rfl, hbr, hu.turned (fun x _ => ⟨.inl, fun h => h.elim id (fun h => absurd h.2 (by omega))⟩)⟩
                      case round =>
                        obtain ⟨j, hj, rfl, hbi, hui⟩ := hrel
                        clear hu hbr
                        by_cases hlj : j < Lk
                        · have v1 := (G0.below hbi).cell0 k hkl
                          rw [upd_ne _ _ e, HA.out] at v1
                          have v2 := (J0.below hbi).cell0 k hkl
                          rw [HP.out] at v2
                          have v3 := (GD.below hbi).cell0 (Ak + j) (by omega)
                          rw [HLAY.out j hlj] at v3
                          obtain ⟨b3, o3, f3, g3', d3⟩ := ((J3.below hbi).ints).at_ (by omega)
                          have v4 := d3 (Pk + j) (by omega)
                          have j1 := fun W => index_run0 (P := Try.prog) Try.underlying28 size3 A1 l2 k hkl W
                          have j2 := fun W => index_run0 (P := Try.prog) Try.underlying28 size3 P0 l2 k hkl W
                          have j3 : ∀ W, (Instr.indexAt 30 (.slice (some ⟨D, 0, none⟩) L' L') (.int .i64 ((Ak : Int) + (j : Int)))).run Try.prog W = .ok (.pointer (some ⟨D, Ak + j, none⟩)) W := fun W => by
                            have := index_run0 (P := Try.prog) Try.underlying30 size5 D L' (Ak + j) (by omega) W
                            rwa [Int.natCast_add] at this
                          have j4 : ∀ W, (Instr.indexAt 30 (.slice a3' l3 l3) (.int .i64 ((Pk : Int) + (j : Int)))).run Try.prog W = .ok (.pointer (some ⟨b3, o3 + (Pk + j), none⟩)) W := fun W => by
                            have := index_run (P := Try.prog) Try.underlying30 size5 (len := l3) f3 l3 (Pk + j) (by omega) W
                            rwa [Int.natCast_add] at this
                          have j5 : ∀ W, (Instr.indexAt 41 (.slice (some ⟨B, 0, none⟩) L' L') (.int .i64 ((Ak : Int) + (j : Int)))).run Try.prog W = .ok (.pointer (some ⟨B, Ak + j, none⟩)) W := fun W => by
                            have := index_run0 (P := Try.prog) Try.underlying41 size4 B L' (Ak + j) (by omega) W
                            rwa [Int.natCast_add] at this
                          obtain ⟨x, x0, x1, _⟩ := hui.at_ (Ak + j) (by omega)
                          have HB := (hui.set (i := Ak + j) (by omega)).turned (q := fun x => Cov i (upd rm i 0) ln k x ∨ (Ak ≤ x ∧ x < Ak + (j + 1))) (fun x _ => used_step)
                          clear hui d3 f3 g3'
                          go_wp2
                          go_region
                          all_goals go_wp2
                          go_roundw
                          case rel => exact ⟨j + 1, by omega, by go_num, (hbi.drew).setCell hB0 _, HB⟩
                          case measure => simp [intOf]; omega
                        · obtain rfl : j = Lk := by omega
                          have HU := hui.turned (q := fun x => Cov i (upd rm i 0) ln (k + 1) x) (fun x _ => Cov.snoc e HA.out HL.out x)
                          clear hui
                          go_wp2
                          go_roundw
                          case rel => exact ⟨k + 1, by omega, by go_num, hbi, HU⟩
                          case measure => simp [intOf]; omega
                  · obtain rfl : l2 = k := by omega
                    have v1 := (J1.below hbr).cell0 i hil
                    have kk := K1.out i hil
                    obtain ⟨Li, hLi⟩ : ∃ Li : Nat, ln i = Li := ⟨(ln i).toNat, by omega⟩
                    have x1 := HS.out.part.lo i hil
                    have x2 := HS.out.part.hi i hil
                    have x3 := HS.out.part.fit i hil
                    obtain ⟨Pi, hPi⟩ : ∃ Pi : Nat, at_ i = Pi := ⟨(at_ i).toNat, by omega⟩
                    have hPL : Pi + Li ≤ l3 := by omega
                    rw [hLi] at v1
                    have HL := hide hLi
                    have HP := hide hPi
                    clear hLi hPi x1 x2 x3 kk
                    go_wp2_with fail
                    clear v1
                    go_loopw [37] (fun c wi => ∃ b : Nat, b ≤ L' ∧ c = .int .i64 b ∧ Below u4.heap.size u4 wi ∧ Bools wi B L' (fun x => Cov i (upd rm i 0) ln l2 x)) (fun c _ => L' - (intOf c).toNat)
                    case atStart => exact ⟨0, Nat.zero_le _, rfl, hbr, hu⟩
                    case round =>
                      obtain ⟨b, hbL, rfl, hbi, hui⟩ := hrel
                      clear hu hbr
                      by_cases hlb : b < L'
                      · obtain ⟨x, x0, _, x2⟩ := hui.at_ b hlb
                        have HB := hide hui
                        have j5 := fun W => index_run0 (P := Try.prog) Try.underlying41 size4 B L' b hlb W
                        cases x with
                        | true =>
                          clear x2 hui
                          go_wp2
                          go_roundw
                          case rel => exact ⟨b + 1, by omega, by go_num, hbi, HB⟩
                          case measure => simp [intOf]; omega
                        | false =>
                          have hno : ¬ Cov i (upd rm i 0) ln l2 b := fun h => by have := x2.2 h; cases this
                          have hlay := lay_none L' f at_ ln (upd rm i 0) i b hlb (q := l2) (fun p hp hpi h => hno ⟨p, hp, hpi, h⟩)
                          rw [HPl.out, HL.out, HP.out] at hlay
                          simp only [Int.toNat_natCast] at hlay
                          have v3 := (GD.below hbi).cell0 b hlb
                          have j3 := fun W => index_run0 (P := Try.prog) Try.underlying30 size5 D L' b hlb W
                          clear x2 hui hno
                          by_cases hin : Pl ≤ b ∧ b < Pl + Li
                          · rw [if_pos ⟨hil, hin⟩] at hlay
                            rw [hlay] at v3
                            have v2 := (J0.below hbi).cell0 i hil
                            rw [HP.out] at v2
                            obtain ⟨b3, o3, f3, g3', d3⟩ := ((J3.below hbi).ints).at_ (by omega)
                            have v4 := d3 (Pi + (b - Pl)) (by omega)
                            have j2 := fun W => index_run0 (P := Try.prog) Try.underlying28 size3 P0 l2 i hil W
                            have j4 : ∀ W, (Instr.indexAt 30 (.slice a3' l3 l3) (.int .i64 ((Pi : Int) + (b : Int) - (Pl : Int)))).run Try.prog W = .ok (.pointer (some ⟨b3, o3 + (Pi + (b - Pl)), none⟩)) W := fun W => by
                              have := index_run (P := Try.prog) Try.underlying30 size5 (len := l3) f3 l3 (Pi + (b - Pl)) (by omega) W
                              rwa [show ((Pi + (b - Pl) : Nat) : Int) = (Pi : Int) + (b : Int) - (Pl : Int) by omega] at this
                            obtain ⟨hin1, hin2⟩ := hin
                            clear d3 f3 g3' hlay
                            go_wp2
                            go_region
                            all_goals go_wp2
                            go_roundw
                            case rel => exact ⟨b + 1, by omega, by go_num, hbi.drew, HB⟩
                            case measure => simp [intOf]; omega
                          · rw [if_neg (fun h => hin h.2)] at hlay
                            rw [hlay] at v3
                            have HN := hide hin
                            clear hlay hin
                            go_wp2
                            all_goals first | exact (HN.out ⟨by omega, by omega⟩).elim | skip
                            all_goals go_roundw
                            all_goals first | exact ⟨b + 1, by omega, by go_num, hbi, HB⟩ | (simp [intOf]; omega)
                      · go_wp2
                        go_ret
                        exact ⟨rfl, hb10.trans (hbi.mono hb10.size)⟩
end Go.Proofs.Qxb6605264a
