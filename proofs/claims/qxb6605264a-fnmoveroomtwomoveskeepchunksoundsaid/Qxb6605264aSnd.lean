import Derived.Test.Qxb6605264aW1
import Derived.Test.Qxb6605264aPlain
import Derived.RegionTactic
import Derived.Deep.DrawnRows
import Derived.Deep.RegionHeld3
import Derived.Deep.RegionWith
namespace Go.Proofs.Qxb6605264a
open Go.RowKit

attribute [local go_sem ↓] Go.wp_at_zero Go.wp_at_succ

/-- A row of bools. -/
def Bools (w : World) (B n : Nat) (p : Nat → Prop) : Prop :=
  ∃ cur, w.heap[B]? = some (.cells cur 4 (0, 0)) ∧ cur.size = n ∧ ∀ j, j < n → ∃ b, cur[j]? = some (.bool b) ∧ (b = true ↔ p j)

theorem Bools.made {w : World} {base g n : Nat} (h : w.ownsRow base 4 1 (.slice (some ⟨g, 0, none⟩) n n) n (madeCells (Value.bool false).cells (n * 1)).toList) : Bools w g n (fun _ => False) := by
  refine ⟨_, row_block h, by simp [size_madeCells], fun j hj => ⟨false, ?_, by simp⟩⟩
  rw [made_at (by omega)]
  simp only [Value.cells]
  rw [show (#[Value.bool false] : Array Value).size = 1 from rfl, Nat.mod_one]
  rfl

theorem Bools.turned {w : World} {B n : Nat} {p q : Nat → Prop} (h : Bools w B n p) (hpq : ∀ j, j < n → (p j ↔ q j)) : Bools w B n q := by
  obtain ⟨cur, hb, hs, hall⟩ := h
  refine ⟨cur, hb, hs, fun j hj => ?_⟩
  obtain ⟨b, h1, h2⟩ := hall j hj
  exact ⟨b, h1, h2.trans (hpq j hj)⟩

theorem Bools.set {w : World} {B n i : Nat} {p : Nat → Prop} (h : Bools w B n p) (hi : i < n) : Bools (w.setCell ⟨B, i, none⟩ (.bool true)) B n (fun j => p j ∨ j = i) := by
  obtain ⟨cur, hb, hs, hall⟩ := h
  refine ⟨_, heap_setCell_same w B i cur 4 _ hb, by simpa using hs, fun j hj => ?_⟩
  by_cases e : j = i
  · subst e
    exact ⟨true, by rw [Array.getElem?_setIfInBounds_self_of_lt (by omega)], by simp⟩
  · obtain ⟨b, h1, h2⟩ := hall j hj
    exact ⟨b, by rw [Array.getElem?_setIfInBounds_ne (by omega)]; exact h1, by simp [h2, e]⟩

theorem Bools.at_ {w : World} {B n : Nat} {p : Nat → Prop} (h : Bools w B n p) (i : Nat) (hi : i < n) : ∃ b, w.cell? ⟨B, i, none⟩ = some (.bool b) ∧ w.frozen? ⟨B, i, none⟩ = false ∧ (b = true ↔ p i) := by
  obtain ⟨cur, hb, hs, hall⟩ := h
  obtain ⟨b, h1, h2⟩ := hall i hi
  exact ⟨b, (cell_of_row w B i cur 4 _ hb).trans h1, frozen_of_row w B i cur 4 hb, h2⟩

theorem used_step {p : Prop} {A j x : Nat} : ((p ∨ (A ≤ x ∧ x < A + j)) ∨ x = A + j) ↔ (p ∨ (A ≤ x ∧ x < A + (j + 1))) := by
  constructor
  · rintro ((h | h) | h)
    · exact .inl h
    · exact .inr (by omega)
    · exact .inr (by omega)
  · rintro (h | h)
    · exact .inl (.inl h)
    · by_cases e : x = A + j
      · exact .inr e
      · exact .inl (.inr (by omega))

def SoundEnd (m l1 l2 : Nat) (at_ ln rm : Nat → Int) (L : Nat) (en de : Int) (w : World) (e : Ending) (w' : World) : Prop :=
  ∃ b, e = .returned (.bool b) ∧ Below w.heap.size w w' ∧ (b = true ↔ (l1 = m ∧ l2 = m ∧ Sound m at_ ln rm L en de))

set_option maxHeartbeats 4000000 in
set_option maxRecDepth 100000 in
theorem sound_any (a0 a1 a2 a3 : Option Addr) (m c0 l1 c1 l2 c2 L c3 : Nat) (at_ ln rm : Nat → Int) (en de : Int) (w : World) (h0 : Ints .i64 w a0 m at_) (h1 : Ints .u32 w a1 l1 ln) (h2 : Ints .u32 w a2 l2 rm)
    (hm : m ≤ 65536) (hL : L ≤ 1073741824) (k1 : ∀ j, j < l1 → 0 ≤ ln j ∧ ln j < 4294967296) (k2 : ∀ j, j < l2 → 0 ≤ rm j ∧ rm j < 4294967296) :
    Calls Try.prog 13 #[.slice a0 m c0, .slice a1 l1 c1, .slice a2 l2 c2, .slice a3 L c3, .int .i64 en, .int .i64 de] w fun e w' => SoundEnd m l1 l2 at_ ln rm L en de w e w' := by
  by_cases e1 : l1 = m
  case neg =>
    have t1 : ((l1 : Int) != (m : Int)) = true := by simp; omega
    have HE : SoundEnd m l1 l2 at_ ln rm L en de w (.returned (.bool false)) w := ⟨false, rfl, Below.refl _ _, by simp [e1]⟩
    go_enter Try.func13, Try.ntmps13
    go_wp2
    go_ret
    exact HE
  by_cases e2 : l2 = m
  case neg =>
    have t1 : ((l1 : Int) != (m : Int)) = false := by simp; omega
    have t2 : ((l2 : Int) != (m : Int)) = true := by simp; omega
    have HE : SoundEnd m l1 l2 at_ ln rm L en de w (.returned (.bool false)) w := ⟨false, rfl, Below.refl _ _, by simp [e2]⟩
    go_enter Try.func13, Try.ntmps13
    go_wp2
    go_ret
    exact HE
  subst e1
  subst e2
  by_cases hes : 0 ≤ en ∧ en ≤ L ∧ 0 ≤ de ∧ de ≤ en
  case neg =>
    have HE : SoundEnd l2 l2 l2 at_ ln rm L en de w (.returned (.bool false)) w := ⟨false, rfl, Below.refl _ _, by simp; intro S; exact hes ⟨S.e0, S.eL, S.d0, S.dE⟩⟩
    have HN := hide hes
    clear hes
    go_enter Try.func13, Try.ntmps13
    go_wp2
    all_goals first | (go_ret; exact HE) | exact (HN.out ⟨by omega, by omega, by omega, by omega⟩).elim
  obtain ⟨q0, q1, q2, q3⟩ := hes
  obtain ⟨N, rfl⟩ : ∃ N : Nat, en = N := ⟨en.toNat, by omega⟩
  have t1 : decide ((L : Int) < (N : Int)) = false := decide_eq_false (by omega)
  have t2 : decide (de < 0) = false := decide_eq_false (by omega)
  have t3 : decide ((N : Int) < de) = false := decide_eq_false (by omega)
  obtain ⟨i0, hi, hz0, hz1, hz2⟩ := info_parts Try.info4
  go_enter Try.func13, Try.ntmps13
  go_wp2_with (at_make; refine wpList_make_full _ rfl _ _ 41 rfl w.heap.size 4 i0 (.bool false) 1 Try.underlying41 hi hz0 hz1 _ _ _ _ N rfl rfl rfl rfl (by rw [hz2]; omega) (by unfold maxLen; omega) (Nat.le_refl _) ?_; intro w1 hown hgrow)
  have hb1 : Below w.heap.size w w1 := (Below.refl _ _).grown hgrow (Nat.le_refl _) (by intro k hk; cases hk)
  have hu1 := Bools.made hown
  clear hown hgrow
  go_loopw [15, 16, 17, 18, 19] (fun s i _ _ _ wr => ∃ k : Nat, k ≤ l2 ∧ i = .int .i64 k ∧ s = .int .i64 (sumTo rm k) ∧ Below w.heap.size w wr ∧ Bools wr w.heap.size N (fun x => Used at_ rm k x) ∧ Hid (Part k at_ ln rm N)) (fun _ i _ _ _ _ => l2 - (intOf i).toNat)
  case atStart => exact ⟨0, Nat.zero_le _, rfl, rfl, hb1, hu1.turned (fun j _ => ⟨False.elim, fun ⟨q, hq, _⟩ => absurd hq (by omega)⟩), Part.zero _ _ _ _⟩
  case round =>
    obtain ⟨k, hk, rfl, rfl, hb, hu, hp⟩ := hrel
    clear hb1 hu1
    by_cases hlt : k < l2
    · obtain ⟨b0, o0, f0, g0, d0⟩ := h0.at_ (by omega)
      obtain ⟨b1, o1, f1, g1, d1⟩ := h1.at_ (by omega)
      obtain ⟨b2, o2, f2, g2, d2⟩ := h2.at_ (by omega)
      have j0 := fun W => index_run (P := Try.prog) Try.underlying28 size3 f0 c0 k hlt W
      have j1 := fun W => index_run (P := Try.prog) Try.underlying29 size38 f1 c1 k hlt W
      have j2 := fun W => index_run (P := Try.prog) Try.underlying29 size38 f2 c2 k hlt W
      have v0 : wr.cell? ⟨b0, o0 + k, none⟩ = some (.int .i64 (at_ k)) := (hb.cell g0).trans (d0 k hlt)
      have v1 : wr.cell? ⟨b1, o1 + k, none⟩ = some (.int .u32 (ln k)) := (hb.cell g1).trans (d1 k hlt)
      have v2 : wr.cell? ⟨b2, o2 + k, none⟩ = some (.int .u32 (rm k)) := (hb.cell g2).trans (d2 k hlt)
      obtain ⟨r0, r1⟩ := k2 k hlt
      obtain ⟨s0, s1⟩ := k1 k hlt
      clear d0 d1 d2 g0 g1 g2
      by_cases c1 : 0 ≤ at_ k ∧ at_ k ≤ N
      case neg =>
        have HE : SoundEnd l2 l2 l2 at_ ln rm L N de w (.returned (.bool false)) wr := ⟨false, rfl, hb, by simp; intro S; exact c1 ⟨S.part.lo k hlt, by have := S.part.hi k hlt; omega⟩⟩
        have HN := hide c1
        clear c1
        go_wp2
        all_goals first | (go_ret; exact HE) | exact (HN.out ⟨by omega, by omega⟩).elim
      obtain ⟨c1, c2⟩ := c1
      have t4 : decide (at_ k < 0) = false := decide_eq_false (by omega)
      have t5 : decide ((N : Int) < at_ k) = false := decide_eq_false (by omega)
      have t6 : IntKind.u32.wrap ((N : Int) - at_ k) = (N : Int) - at_ k := by rw [IntKind.wrap_u32]; omega
      have t7 : IntKind.i64.wrap ((N : Int) - at_ k) = (N : Int) - at_ k := by rw [IntKind.wrap_i64]; omega
      by_cases c3 : at_ k + rm k ≤ N
      case neg =>
        have HE : SoundEnd l2 l2 l2 at_ ln rm L N de w (.returned (.bool false)) wr := ⟨false, rfl, hb, by simp; intro S; exact c3 (S.part.hi k hlt)⟩
        have t8 : decide ((N : Int) - at_ k < rm k) = true := decide_eq_true (by omega)
        clear c3
        go_wp2
        go_ret
        exact HE
      have t8 : decide ((N : Int) - at_ k < rm k) = false := decide_eq_false (by omega)
      by_cases c4 : ln k ≤ rm k
      case neg =>
        have HE : SoundEnd l2 l2 l2 at_ ln rm L N de w (.returned (.bool false)) wr.drew := ⟨false, rfl, hb.drew, by simp; intro S; exact c4 (S.part.fit k hlt)⟩
        have t9 : decide (rm k < ln k) = true := decide_eq_true (by omega)
        clear c4
        go_wp2
        go_region
        all_goals go_wp2
        all_goals (go_ret; exact HE)
      have t9 : decide (rm k < ln k) = false := decide_eq_false (by omega)
      go_wp2
      go_region
      all_goals go_wp2
      obtain ⟨A, hA⟩ : ∃ A : Nat, at_ k = A := ⟨(at_ k).toNat, by omega⟩
      obtain ⟨R, hR⟩ : ∃ R : Nat, rm k = R := ⟨(rm k).toNat, by omega⟩
      have HA := hide hA
      have HR := hide hR
      have HF := hide c4
      have hAR : A + R ≤ N := by omega
      rw [hA, hR]
      clear c1 c2 c3 c4 t4 t5 t6 t7 t8 t9 v0 v1 v2 r0 r1 s0 s1 j0 j1 j2 hA hR
      go_loopw [19] (fun i wi => ∃ j : Nat, j ≤ R ∧ i = .int .i64 j ∧ Below w.heap.size w wi ∧ Bools wi w.heap.size N (fun x => Used at_ rm k x ∨ (A ≤ x ∧ x < A + j)) ∧ Hid (∀ x : Nat, A ≤ x → x < A + j → ¬ Used at_ rm k x)) (fun i _ => R - (intOf i).toNat)
      case atStart => exact ⟨0, Nat.zero_le _, rfl, hb.drew, hu.turned (fun x _ => ⟨.inl, fun h => h.elim id (fun h => absurd h.2 (by omega))⟩), fun x h1 h2 => absurd h2 (by omega)⟩
      case round =>
        obtain ⟨j, hj, rfl, hbi, hui, hpi⟩ := hrel
        clear hu hb
        by_cases hlj : j < R
        · have jx : ∀ W, (Instr.indexAt 41 (.slice (some ⟨w.heap.size, 0, none⟩) N N) (.int .i64 ((A : Int) + (j : Int)))).run Try.prog W = .ok (.pointer (some ⟨w.heap.size, A + j, none⟩)) W := fun W => by
            have := index_run (P := Try.prog) Try.underlying41 size4 (a := some ⟨w.heap.size, 0, none⟩) (len := N) rfl N (A + j) (by omega) W
            rwa [Nat.zero_add, Int.natCast_add] at this
          obtain ⟨x, x0, x1, x2⟩ := hui.at_ (A + j) (by omega)
          have hx := hui.set (i := A + j) (by omega)
          cases x with
          | true =>
            have HE : SoundEnd l2 l2 l2 at_ ln rm L N de w (.returned (.bool false)) _ := ⟨false, rfl, hbi, by
              simp
              intro S
              rcases x2.1 rfl with ⟨q, hq, hin⟩ | ⟨_, h⟩
              · exact S.part.dis q k _ (by omega) hlt (by omega) hin ⟨by rw [HA.out]; omega, by rw [HA.out, HR.out]; omega⟩
              · omega⟩
            clear x2 hx
            go_wp2
            go_ret
            exact HE
          | false =>
            have HX : Hid (¬ Used at_ rm k ((A + j : Nat) : Int)) := fun h => by have := x2.2 (.inl h); cases this
            have HB := hx.turned (q := fun x => Used at_ rm k x ∨ (A ≤ x ∧ x < A + (j + 1))) (fun x _ => used_step)
            clear x2 hx
            go_wp2
            go_roundw
            case rel => exact ⟨j + 1, by omega, by go_num, hbi.setCell (Nat.le_refl _) _, HB, fun x h1 h2 => if e : x = A + j then e ▸ HX.out else hpi.out x h1 (by omega)⟩
            case measure => simp [intOf]; omega
        · obtain rfl : j = R := by omega
          have hP : Part (k + 1) at_ ln rm N := hp.out.snoc (by rw [HA.out]; omega) (by rw [HA.out, HR.out]; omega) HF.out (fun x hx hu => by
            obtain ⟨y0, y1⟩ := hx
            rw [HA.out] at y0 y1
            rw [HR.out] at y1
            obtain ⟨y, rfl⟩ : ∃ y : Nat, x = y := ⟨x.toNat, by omega⟩
            exact hpi.out y (by omega) (by omega) hu)
          have HP := hide hP
          have hs1 := sumTo_le hP
          have hs2 : 0 ≤ sumTo rm k := sumTo_nonneg (fun q hq => (k2 q (by omega)).1)
          have hs3 : sumTo rm (k + 1) = sumTo rm k + j := by rw [sumTo, HR.out]
          have hs4 : ((k + 1 : Nat) : Int) * (N : Int) ≤ 65536 * 1073741824 := Int.mul_le_mul (by omega) (by omega) (by omega) (by omega)
          have hs5 : sumTo rm k + j ≤ 70368744177664 := by omega
          have HS := hide hs3
          have HB := hui.turned (q := fun x => Used at_ rm (k + 1) x) (fun x _ => by rw [Used.snoc]; unfold InRoom; rw [HA.out, HR.out]; constructor <;> rintro (h | h) <;> first | exact .inl h | exact .inr (by omega))
          clear hP hs1 hs3 hs4 hpi hui
          go_wp2
          go_roundw
          case rel => exact ⟨k + 1, by omega, by go_num, by rw [HS.out], hbi, HB, HP⟩
          case measure => simp [intOf]; omega
    · obtain rfl : k = l2 := by omega
      have hs1 := sumTo_le hp.out
      have hs2 : 0 ≤ sumTo rm k := sumTo_nonneg (fun q hq => (k2 q (by omega)).1)
      have hs4 : (k : Int) * (N : Int) ≤ 65536 * 1073741824 := Int.mul_le_mul (by omega) (by omega) (by omega) (by omega)
      have hs5 : sumTo rm k ≤ 70368744177664 := by omega
      have HE : ∀ W, Below w.heap.size w W → ∀ b : Bool, (b = true ↔ sumTo rm k + de = N) → SoundEnd k k k at_ ln rm L N de w (.returned (.bool b)) W := fun W hW b hbb => ⟨b, rfl, hW, hbb.trans ⟨fun h => ⟨rfl, rfl, q0, q1, q2, q3, hp.out, h⟩, fun h => h.2.2.sum⟩⟩
      replace HE := hide HE
      clear hs1 hs4
      go_wp2
      go_ret
      exact HE.out _ hb _ (by simp)
end Go.Proofs.Qxb6605264a
