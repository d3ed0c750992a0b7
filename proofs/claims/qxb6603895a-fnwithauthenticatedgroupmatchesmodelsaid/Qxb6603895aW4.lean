import Derived.Test.Qxb6603895aW3
import Derived.WideMake
import Derived.LaidEqlPtr
namespace Go.Proofs.Qxb6603895a
open Go.RowKit

/-- What the law's map is: nil, or {key: a copy of val}. -/
def IsExtra (w : World) (m : Option Nat) (x : Bool) (key : ByteArray) (a : Option Addr) (len : Nat) (ss : List ByteArray) : Prop :=
  (x = false ∧ m = none) ∨ (x = true ∧ ∃ b a' c', m = some b ∧ IsOne w b key (.slice a' len c') ∧ IsStrs w a' len ss ∧ a'.isNone = a.isNone)

theorem IsExtra.below {w w' : World} {m : Option Nat} {x : Bool} {key : ByteArray} {a : Option Addr} {len : Nat} {ss : List ByteArray} (h : IsExtra w m x key a len ss) (hb : Below w.heap.size w w') : IsExtra w' m x key a len ss := by
  rcases h with h | ⟨hx, b, a', c', hm, h1, h2, h3⟩
  · exact .inl h
  · exact .inr ⟨hx, b, a', c', hm, h1.below hb, h2.below hb, h3⟩

theorem extra_any (m : Option Nat) (x : Bool) (key probe : ByteArray) (a : Option Addr) (len c : Nat) (ss : List ByteArray) (w : World) (hE : IsExtra w m x key a len ss) (hA : IsStrs w a len ss) (hlen : len ≤ 65536) :
    Calls Try.prog 15 #[.map m, .bool x, .string key, .slice a len c, .string probe] w fun e w' => e = .returned (.bool true) ∧ Below w.heap.size w w' := by
  rcases hE with ⟨rfl, rfl⟩ | ⟨rfl, b, a', c', rfl, h1, h2, h3⟩
  · exact extra_no key probe _ w
  · exact extra_yes b key probe a a' len c c' ss w h1 hA h2 h3 hlen

/-- The one entry of the law's map is put in. -/
theorem insert_one (w : World) (r : Nat) (key : ByteArray) (v : Value) (hb : w.heap[r]? = some (.map #[] 0)) :
    ∃ w', (Instr.mapUpdate 28 (.map (some r)) (.string key) v).run Try.prog w = .ok () w' ∧ IsOne w' r key v ∧ w.grownBy w' (some r) := by
  refine ⟨_, run_mapUpdate_first w 28 9 22 r 0 key v Try.underlying28 Try.underlying9 hb, ?_, ⟨rfl, rfl, rfl, by simp, fun i _ hi => ?_⟩⟩
  · exact (MapKept.heap_set hb).1
  · exact (MapKept.heap_set hb).2 i (fun e => hi (by rw [e]))

theorem user_new {w : World} {m : Option Nat} {x : Bool} {key : ByteArray} {a : Option Addr} {len : Nat} {ss : List ByteArray} (_hE : IsExtra w m x key a len ss) (s0 s1 : ByteArray) (a7 : Option Addr) (l2 : Nat) :
    IsUser (w.alloc (.cells #[.string s0, .string s1, .slice a7 l2 l2, .map m] 31)) w.heap.size s0 s1 a7 l2 l2 m := .of_blk (heap_alloc_new w _)

theorem Try.info31 : (Try.prog.info? 31).map (fun i => (i.zero.isSome, i.size, i.bytes)) = some (true, 4, 64) := by kernel_rfl
theorem ptr_ne {w : World} {r u : Nat} {n n' i i' : ByteArray} {a a' : Option Addr} {l l' c c' : Nat} {m m' : Option Nat} (hr : IsUser w r n i a l c m) (hu : IsUser w u n' i' a' l' c' m') (h : ¬ r = u) :
    (binOp .eql 29 (.pointer (some ⟨r, 0, none⟩)) (.pointer (some ⟨u, 0, none⟩))).run Try.prog w = .ok (.bool false) w := by
  obtain ⟨j, hj, hjj⟩ := Option.map_eq_some_iff.1 Try.info31
  simp only [Prod.mk.injEq] at hjj
  exact run_eql_ptr_other w Try.underlying29 hj (by rw [hjj.2.1]; decide) (fun e => h (congrArg Addr.block e)) hr.blk hu.blk

/-- What holds from the new user on: w0 the world at the start, W now. -/
structure Inv (w0 W : World) (r u : Nat) (s0 s1 s4 : ByteArray) (aR : Option Addr) (lR cR : Nat) (tR : List ByteArray) (a7 : Option Addr) (l2 : Nat) (t2 : List ByteArray) (m : Option Nat) (x : Bool) (a2 a5 : Option Addr) (l5 : Nat) (t5 : List ByteArray) : Prop where
  hR : IsUser W r s0 s1 aR lR cR m
  hU : IsUser W u s0 s1 a7 l2 l2 m
  sR : IsStrs W aR lR tR
  s7 : IsStrs W a7 l2 t2
  s2 : IsStrs W a2 l2 t2
  s5 : IsStrs W a5 l5 t5
  hE : IsExtra W m x s4 a5 l5 t5
  hb : Below w0.heap.size w0 W

theorem Inv.below {w0 W W' : World} {r u : Nat} {s0 s1 s4 : ByteArray} {aR : Option Addr} {lR cR : Nat} {tR : List ByteArray} {a7 : Option Addr} {l2 : Nat} {t2 : List ByteArray} {m : Option Nat} {x : Bool} {a2 a5 : Option Addr} {l5 : Nat} {t5 : List ByteArray}
    (h : Inv w0 W r u s0 s1 s4 aR lR cR tR a7 l2 t2 m x a2 a5 l5 t5) (hb : Below W.heap.size W W') : Inv w0 W' r u s0 s1 s4 aR lR cR tR a7 l2 t2 m x a2 a5 l5 t5 :=
  ⟨h.hR.below hb, h.hU.below hb, h.sR.below hb, h.s7.below hb, h.s2.below hb, h.s5.below hb, h.hE.below hb, h.hb.trans (hb.mono h.hb.size)⟩

set_option maxHeartbeats 400000 in
set_option maxRecDepth 100000 in
theorem top_big (s0 s1 s4 s6 : ByteArray) (a2 a5 : Option Addr) (l2 c2 l5 c5 : Nat) (t2 t5 : List ByteArray) (x3 : Bool) (w : World) (h2 : IsStrs w a2 l2 t2) (h5 : IsStrs w a5 l5 t5) (hl2 : l2 ≤ maxLen) (hl5 : l5 ≤ maxLen)
    (hbig : ¬ (l2 ≤ 4096 ∧ l5 ≤ 4096 ∧ s0.size ≤ 1048576 ∧ s1.size ≤ 1048576 ∧ s4.size ≤ 1048576 ∧ s6.size ≤ 1048576)) :
    Calls Try.prog 4 #[.string s0, .string s1, .slice a2 l2 c2, .bool x3, .string s4, .slice a5 l5 c5, .string s6] w fun e w' => e = .returned (.bool true) ∧ Below w.heap.size w w' := by
  by_cases g2 : l2 ≤ 4096
  case neg =>
    have e2 : decide ((4096 : Int) < (l2 : Int)) = true := decide_eq_true (by omega)
    clear hbig
    go_enter Try.func4, Try.ntmps4
    go_wp2_with fail
    refine (bytes_any s0 s1 s4 s6 a2 a5 l2 c2 l5 c5 t2 t5 x3 w h2 h5 hl2 hl5).mono ?_
    rintro e w' ⟨x, rfl, hw⟩
    subst hw
    cases x <;> (go_wp2_with fail; go_ret; exact ⟨rfl, Below.refl _ _⟩)
  have e2 : decide ((4096 : Int) < (l2 : Int)) = false := decide_eq_false (by omega)
  by_cases g5 : l5 ≤ 4096
  case neg =>
    have e5 : decide ((4096 : Int) < (l5 : Int)) = true := decide_eq_true (by omega)
    clear hbig
    go_enter Try.func4, Try.ntmps4
    go_wp2_with fail
    refine (bytes_any s0 s1 s4 s6 a2 a5 l2 c2 l5 c5 t2 t5 x3 w h2 h5 hl2 hl5).mono ?_
    rintro e w' ⟨x, rfl, hw⟩
    subst hw
    cases x <;> (go_wp2_with fail; go_ret; exact ⟨rfl, Below.refl _ _⟩)
  have e5 : decide ((4096 : Int) < (l5 : Int)) = false := decide_eq_false (by omega)
  by_cases g0 : s0.size ≤ 1048576
  case neg =>
    have e0 : decide ((1048576 : Int) < (s0.size : Int)) = true := decide_eq_true (by omega)
    clear hbig
    go_enter Try.func4, Try.ntmps4
    go_wp2_with fail
    refine (bytes_any s0 s1 s4 s6 a2 a5 l2 c2 l5 c5 t2 t5 x3 w h2 h5 hl2 hl5).mono ?_
    rintro e w' ⟨x, rfl, hw⟩
    subst hw
    cases x <;> (go_wp2_with fail; go_ret; exact ⟨rfl, Below.refl _ _⟩)
  have e0 : decide ((1048576 : Int) < (s0.size : Int)) = false := decide_eq_false (by omega)
  by_cases g1 : s1.size ≤ 1048576
  case neg =>
    have e1 : decide ((1048576 : Int) < (s1.size : Int)) = true := decide_eq_true (by omega)
    clear hbig
    go_enter Try.func4, Try.ntmps4
    go_wp2_with fail
    refine (bytes_any s0 s1 s4 s6 a2 a5 l2 c2 l5 c5 t2 t5 x3 w h2 h5 hl2 hl5).mono ?_
    rintro e w' ⟨x, rfl, hw⟩
    subst hw
    cases x <;> (go_wp2_with fail; go_ret; exact ⟨rfl, Below.refl _ _⟩)
  have e1 : decide ((1048576 : Int) < (s1.size : Int)) = false := decide_eq_false (by omega)
  by_cases g4 : s4.size ≤ 1048576
  case neg =>
    have e4 : decide ((1048576 : Int) < (s4.size : Int)) = true := decide_eq_true (by omega)
    clear hbig
    go_enter Try.func4, Try.ntmps4
    go_wp2_with fail
    refine (bytes_any s0 s1 s4 s6 a2 a5 l2 c2 l5 c5 t2 t5 x3 w h2 h5 hl2 hl5).mono ?_
    rintro e w' ⟨x, rfl, hw⟩
    subst hw
    cases x <;> (go_wp2_with fail; go_ret; exact ⟨rfl, Below.refl _ _⟩)
  have e4 : decide ((1048576 : Int) < (s4.size : Int)) = false := decide_eq_false (by omega)
  have e6 : decide ((1048576 : Int) < (s6.size : Int)) = true := decide_eq_true (by omega)
  clear hbig
  go_enter Try.func4, Try.ntmps4
  go_wp2_with fail
  refine (bytes_any s0 s1 s4 s6 a2 a5 l2 c2 l5 c5 t2 t5 x3 w h2 h5 hl2 hl5).mono ?_
  rintro e w' ⟨x, rfl, hw⟩
  subst hw
  cases x <;> (go_wp2_with fail; go_ret; exact ⟨rfl, Below.refl _ _⟩)

set_option maxHeartbeats 800000 in
set_option maxRecDepth 100000 in
theorem top_any (s0 s1 s4 s6 : ByteArray) (a2 a5 : Option Addr) (l2 c2 l5 c5 : Nat) (t2 t5 : List ByteArray) (x3 : Bool) (w : World) (h2 : IsStrs w a2 l2 t2) (h5 : IsStrs w a5 l5 t5) (hl2 : l2 ≤ maxLen) (hl5 : l5 ≤ maxLen)
    (n2 : a2 = none → l2 = 0) (n5 : a5 = none → l5 = 0) :
    Calls Try.prog 4 #[.string s0, .string s1, .slice a2 l2 c2, .bool x3, .string s4, .slice a5 l5 c5, .string s6] w fun e w' => e = .returned (.bool true) ∧ Below w.heap.size w w' := by
  have hbig : (l2 ≤ 4096 ∧ l5 ≤ 4096 ∧ s0.size ≤ 1048576 ∧ s1.size ≤ 1048576 ∧ s4.size ≤ 1048576 ∧ s6.size ≤ 1048576) ∨ ¬ (l2 ≤ 4096 ∧ l5 ≤ 4096 ∧ s0.size ≤ 1048576 ∧ s1.size ≤ 1048576 ∧ s4.size ≤ 1048576 ∧ s6.size ≤ 1048576) := Classical.em _
  rcases hbig with ⟨g2, g5, g0, g1, g4, g6⟩ | hbig
  · have e2 : decide ((4096 : Int) < (l2 : Int)) = false := decide_eq_false (by omega)
    have e5 : decide ((4096 : Int) < (l5 : Int)) = false := decide_eq_false (by omega)
    have e0 : decide ((1048576 : Int) < (s0.size : Int)) = false := decide_eq_false (by omega)
    have e1 : decide ((1048576 : Int) < (s1.size : Int)) = false := decide_eq_false (by omega)
    have e4 : decide ((1048576 : Int) < (s4.size : Int)) = false := decide_eq_false (by omega)
    have e6 : decide ((1048576 : Int) < (s6.size : Int)) = false := decide_eq_false (by omega)
    have hmm := @run_makeMap Try.prog
    go_enter Try.func4, Try.ntmps4
    go_wp2_with fail
    refine (bytes_any s0 s1 s4 s6 a2 a5 l2 c2 l5 c5 t2 t5 x3 w h2 h5 hl2 hl5).mono ?_
    rintro e w' ⟨x, rfl, hw⟩
    subst hw
    cases x with
    | false =>
      go_wp2_with fail
      go_ret
      exact ⟨rfl, Below.refl _ _⟩
    | true =>
      go_wp2_with fail
      refine (strBytes_any a2 l2 c2 t2 _ h2 hl2).mono ?_
      rintro e w' ⟨x, rfl, hw⟩
      subst hw
      go_wp2_with fail
      refine (strBytes_any a5 l5 c5 t5 _ h5 hl5).mono ?_
      rintro e w' ⟨y, rfl, hw⟩
      subst hw
      go_wp2_with fail
      · go_ret
        exact ⟨rfl, Below.refl _ _⟩
      refine (clone_any a2 l2 c2 t2 _ h2 (by omega) n2).mono ?_
      rintro e w1 ⟨a2', rfl, m2, h2', hb1⟩
      go_wp2_with fail
      refine (clone_any a5 l5 c5 t5 _ (h5.below hb1) (by omega) n5).mono ?_
      rintro e w2 ⟨a5', rfl, m5, h5', hb2⟩
      have hb12 : Below w'.heap.size w' w2 := hb1.trans (hb2.mono hb1.size)
      have n5' : a5' = none → l5 = 0 := fun h => n5 (by rw [h] at m5; simpa using m5.symm)
      have n2' : a2' = none → l2 = 0 := fun h => n2 (by rw [h] at m2; simpa using m2.symm)
      have h2w := h2'.below hb2
      clear hb1 hb2 h2' m2 m5 n2 n5 h2 h5 hl2 hl5
      cases x3
      case' false =>
        have hE : IsExtra w2 none false s4 a5' l5 t5 := .inl ⟨rfl, rfl⟩
        go_wp2_with fail
        obtain ⟨wE, rfl⟩ : ∃ W, W = w2 := ⟨_, rfl⟩
      case' true =>
        go_wp2_with fail
        have hal : Below w2.heap.size w2 (w2.alloc (.map #[] 0)) := (Below.refl _ _).alloc (Nat.le_refl _) _
        refine (clone_any a5' l5 l5 t5 _ (h5'.below hal) (by omega) n5').mono ?_
        rintro e w3 ⟨a6, rfl, m6, h6, hb3⟩
        have hblk : w3.heap[w2.heap.size]? = some (.map #[] 0) := (hb3.block _ (by simp)).trans (MapKept.heap_alloc w2 _).1
        obtain ⟨wE, hins, hone, hgr⟩ := insert_one w3 w2.heap.size s4 (.slice a6 l5 l5) hblk
        have hb2E : Below w2.heap.size w2 wE := (hal.trans (hb3.mono hal.size)).grown hgr (Nat.le_trans hal.size hb3.size) (fun k hk => by cases hk; exact Nat.le_refl _)
        have hE : IsExtra wE (some w2.heap.size) true s4 a5' l5 t5 := .inr ⟨rfl, _, a6, l5, rfl, hone, h6.past_map hgr hblk, m6⟩
        replace h5' := h5'.below hb2E
        replace h2w := h2w.below hb2E
        replace hb12 := hb12.trans (hb2E.mono hb12.size)
        clear hal m6 h6 hb3 hblk hone hgr hb2E
        go_wp2_with fail
        clear hins
      all_goals
        refine (clone_any a2' l2 l2 t2 _ h2w (by omega) n2').mono ?_
        rintro e w4 ⟨a7, rfl, m7, h7, hb4⟩
        replace h5' := h5'.below hb4
        replace h2w := h2w.below hb4
        replace hE := hE.below hb4
        replace hb12 := hb12.trans (hb4.mono hb12.size)
        clear hb4
        go_wp2_with fail
        have hU0 := user_new hE s0 s1 a7 l2
        by_cases hm : mem t2 sAG = true
        · refine (with_has w4.heap.size s0 s1 a7 l2 l2 t2 _ _ hU0 (h7.below ((Below.refl _ _).alloc (Nat.le_refl _) _)) (by omega) hm).mono ?_
          rintro e w5 ⟨r, rfl, hr, hU, hb5⟩
          have hbW : Below w4.heap.size w4 w5 := ((Below.refl _ _).alloc (Nat.le_refl _) _).trans (hb5.mono (by simp))
          have hru : ¬ r = w4.heap.size := by simp at hr; omega
          have I := Inv.mk hU (hU0.below hb5) (h7.below hbW) (h7.below hbW) (h2w.below hbW) (h5'.below hbW) (hE.below hbW) (hb12.trans (hbW.mono hb12.size))
          have hpp := ptr_ne I.hR I.hU hru
          have r0 := I.hR.c0
          have r1 := I.hR.c1
          clear hb5 hbW hr hU hU0 h7 h2w h5' hE hb12
          go_wp2_with fail
          refine (contains_any a2' l2 l2 t2 sAG _ I.s2 (by omega)).mono ?_
          rintro e w6 ⟨rfl, hw⟩
          subst hw
          clear hpp r0 r1
          have r2 := I.hR.c2
          go_wp2_with fail
          refine (equal_yes a7 a2' l2 l2 l2 t2 _ I.sR I.s2 m7 (by omega)).mono ?_
          rintro e w7 ⟨rfl, hb7⟩
          replace I := I.below hb7
          clear hb7 r2
          have r3 := I.hR.c3
          go_wp2_with fail
          refine (extra_any _ _ s4 s6 a5' l5 l5 t5 _ I.hE I.s5 (by omega)).mono ?_
          rintro e w8 ⟨rfl, hb8⟩
          replace I := I.below hb8
          clear hb8 r3
          have u0 := I.hU.c0
          have u1 := I.hU.c1
          have u2 := I.hU.c2
          go_wp2_with fail
          refine (equal_yes a7 a2' l2 l2 l2 t2 _ I.s7 I.s2 m7 (by omega)).mono ?_
          rintro e w9 ⟨rfl, hb9⟩
          replace I := I.below hb9
          clear hb9 u0 u1 u2
          have u3 := I.hU.c3
          go_wp2_with fail
          refine (extra_any _ _ s4 s6 a5' l5 l5 t5 _ I.hE I.s5 (by omega)).mono ?_
          rintro e w10 ⟨rfl, hb10⟩
          replace I := I.below hb10
          go_wp2_with fail
          go_ret
          exact ⟨rfl, I.hb⟩
        · have hm' : mem t2 sAG = false := by simpa using hm
          clear hm
          refine (with_not w4.heap.size s0 s1 a7 l2 l2 t2 _ _ hU0 (h7.below ((Below.refl _ _).alloc (Nat.le_refl _) _)) (by omega) (Nat.le_refl _) (fun h => by have := n2' (by rw [h] at m7; simpa using m7.symm); omega) hm').mono ?_
          rintro e w5 ⟨r, g, capR, rfl, hr, hU, hSR, hb5⟩
          have hbW : Below w4.heap.size w4 w5 := ((Below.refl _ _).alloc (Nat.le_refl _) _).trans (hb5.mono (by simp))
          have hru : ¬ r = w4.heap.size := by simp at hr; omega
          have I := Inv.mk hU (hU0.below hb5) hSR (h7.below hbW) (h2w.below hbW) (h5'.below hbW) (hE.below hbW) (hb12.trans (hbW.mono hb12.size))
          have hpp := ptr_ne I.hR I.hU hru
          have r0 := I.hR.c0
          have r1 := I.hR.c1
          clear hb5 hbW hr hU hU0 h7 h2w h5' hE hb12 hSR
          go_wp2_with fail
          refine (contains_any a2' l2 l2 t2 sAG _ I.s2 (by omega)).mono ?_
          rintro e w6 ⟨rfl, hw⟩
          subst hw
          clear hpp r0 r1
          obtain ⟨i0, hi, hz0, hz1, hz2⟩ := info_parts Try.info9
          go_wp2_with (at_make; refine wpList_make_own _ rfl _ _ 22 rfl w6.heap.size 9 i0 (.string ⟨#[]⟩) 1 Try.underlying22 hi hz0 hz1 _ _ _ (l2 + 1) rfl rfl (by omega) (by rw [hz2]; omega) (by unfold maxLen; omega) (Nat.le_refl _) ?_; intro wA hownA hgrowA)
          have hbA : Below w6.heap.size w6 wA := (Below.refl _ _).grown hgrowA (Nat.le_refl _) (by intro k hk; cases hk)
          go_loopw [19, 20] (fun v i wr => ∃ k : Nat, k ≤ l2 ∧ i = .int .i64 k ∧ v = .slice (some ⟨w6.heap.size, 0, none⟩) k (l2 + 1) ∧ Below w6.heap.size w6 wr ∧ wr.ownsRow w6.heap.size 9 1 (.slice (some ⟨w6.heap.size, 0, none⟩) k (l2 + 1)) k ((t2.take k).map Value.string)) (fun _ i _ => l2 - (intOf i).toNat)
          case atStart => exact ⟨0, Nat.zero_le _, rfl, rfl, hbA, hownA⟩
          case round =>
            obtain ⟨k, hk, rfl, rfl, hbr, hown⟩ := hrel
            clear hgrowA hownA hbA
            by_cases hlt : k < l2
            · obtain ⟨bb, off, ha, hbl, hc⟩ := (I.s2.below hbr).at_ (by omega)
              have hix := fun W => index_run (P := Try.prog) Try.underlying22 size9 ha l2 k hlt W
              obtain ⟨ky, hky⟩ : ∃ ky, ky = t2.getD k ByteArray.empty := ⟨_, rfl⟩
              have hck : wr.cell? ⟨bb, off + k, none⟩ = some (.string ky) := by rw [hky]; exact hc k hlt
              have HK : Hid ((t2.take (k + 1)).map Value.string = (t2.take k).map Value.string ++ [.string ky]) := by rw [hky]; exact map_take_snoc t2 k (by rw [I.s2.len_eq]; exact hlt)
              clear hc hbl hky ha
              go_wp2_with (at_builtin; refine wpList_append_fits _ rfl _ _ 22 rfl w6.heap.size 9 i0 1 Try.underlying22 hi hz1 w6.heap.size k (l2 + 1) _ rfl (hown.alloc _) ⟨wr.heap.size, 0, none⟩ 1 1 [.string ky] rfl rfl (cell_one_new _ _ _) (str_oneCell ky) (by omega) ?_; intro wB hownB hgrowB)
              go_roundw
              case rel => exact ⟨k + 1, by omega, by go_num, rfl, (hbr.alloc hbr.size _).grown hgrowB (by simp; exact Nat.le_succ_of_le hbr.size) (fun j hj => by cases hj; exact Nat.le_refl _), by rw [HK.out]; exact hownB⟩
              case measure => simp [intOf]; omega
            · obtain rfl : k = l2 := by omega
              have htk : t2.take k = t2 := List.take_of_length_le (by rw [I.s2.len_eq]; exact Nat.le_refl _)
              rw [htk] at hown
              clear htk
              go_wp2_with (at_builtin; refine wpList_append_fits _ rfl _ _ 22 rfl w6.heap.size 9 i0 1 Try.underlying22 hi hz1 w6.heap.size k (k + 1) _ rfl (hown.alloc _) ⟨wr.heap.size, 0, none⟩ 1 1 [.string sAG] rfl rfl (cell_one_new _ _ _) (str_oneCell sAG) (by omega) ?_; intro wB hownB hgrowB; have hbB := (hbr.alloc hbr.size _).grown hgrowB (by simp; exact Nat.le_succ_of_le hbr.size) (fun j hj => by cases hj; exact Nat.le_refl _); have r2 := (I.below hbB).hR.c2)
              replace I := I.below hbB
              have sW : IsStrs wB (some ⟨w6.heap.size, 0, none⟩) (k + 1) (t2 ++ [sAG]) := IsStrs.of_own (by simpa using hownB) I.sR.short
              clear hown hgrowB hownB hbB hbr
              refine (equal_yes (some ⟨g, 0, none⟩) (some ⟨w6.heap.size, 0, none⟩) (k + 1) capR (k + 1) (t2 ++ [sAG]) _ I.sR sW rfl (by omega)).mono ?_
              rintro e w7 ⟨rfl, hb7⟩
              replace I := I.below hb7
              clear hb7 r2
              have r3 := I.hR.c3
              go_wp2_with fail
              refine (extra_any _ _ s4 s6 a5' l5 l5 t5 _ I.hE I.s5 (by omega)).mono ?_
              rintro e w8 ⟨rfl, hb8⟩
              replace I := I.below hb8
              clear hb8 r3
              have u0 := I.hU.c0
              have u1 := I.hU.c1
              have u2 := I.hU.c2
              go_wp2_with fail
              refine (equal_yes a7 a2' k k k t2 _ I.s7 I.s2 m7 (by omega)).mono ?_
              rintro e w9 ⟨rfl, hb9⟩
              replace I := I.below hb9
              clear hb9 u0 u1 u2
              have u3 := I.hU.c3
              go_wp2_with fail
              refine (extra_any _ _ s4 s6 a5' l5 l5 t5 _ I.hE I.s5 (by omega)).mono ?_
              rintro e w10 ⟨rfl, hb10⟩
              replace I := I.below hb10
              go_wp2_with fail
              go_ret
              exact ⟨rfl, I.hb⟩
  · exact top_big s0 s1 s4 s6 a2 a5 l2 c2 l5 c5 t2 t5 x3 w h2 h5 hl2 hl5 hbig
end Go.Proofs.Qxb6603895a
