import Derived.Test.Qxb6605202aLook
import Derived.Test.Qxb6605202aPlain2
import Derived.Deep.RegionWith
import Derived.Deep.RegionHeld3
import Derived.Deep.DrawnRows
namespace Go.Proofs.Qxb6605202a
open Go.RowKit

attribute [local go_sem ↓] Go.wp_at_zero Go.wp_at_succ

section
variable {base : Nat} {w : World} {d : Nat} {text : List UInt8} {fin : ByteArray} {us : Option (Int × Int)} {fs : List Frag} {tag : Nat → Option Nat} {p v iv : Value} {up : Option Addr} {m : Option Nat} {blk : Nat → Nat}

/-- It answers x; the draft reads as it did. -/
def ReadEnd (base d : Nat) (text : List UInt8) (fin : ByteArray) (us : Option (Int × Int)) (fs : List Frag) (tag : Nat → Option Nat) (p v iv : Value) (up : Option Addr) (m : Option Nat) (blk : Nat → Nat) (w : World) (x : Value) (e : Ending) (w' : World) : Prop :=
  e = .returned x ∧ ∃ tag', DraftAt base w' d text fin us fs tag' p v iv up m blk ∧ Step tag tag' w w'

set_option maxHeartbeats 400000 in
theorem text_any (D : DraftAt base w d text fin us fs tag p v iv up m blk) : Calls Try.prog 14 #[.pointer (some ⟨d, 0, none⟩)] w fun e w' => ReadEnd base d text fin us fs tag p v iv up m blk w (.string ⟨text.toArray⟩) e w' := by
  have hne : v.ownBlock ≠ some d := fun e => by have h1 := D.txtT d e; rw [D.dt] at h1; cases h1
  go_enter Try.func14, Try.ntmps14
  go_wp2_with fail
  refine (string_any 40 0 d _ base v text w D.d0 rfl D.txt hne).mono ?_
  rintro e w1 ⟨rfl, hb, hown, hf⟩
  obtain ⟨t', D', S'⟩ := D.onText D.self (hb.trans D.d0) hown (.inl rfl) hf
  go_wp2_with fail
  go_ret
  exact ⟨rfl, t', D', S'⟩

theorem finish_any (D : DraftAt base w d text fin us fs tag p v iv up m blk) : Calls Try.prog 15 #[.pointer (some ⟨d, 0, none⟩)] w fun e w' => e = .returned (.string fin) ∧ w' = w := by
  have c2 : w.cell? ⟨d, 2, none⟩ = some (.string fin) := (cell_of_row w d 2 _ _ _ D.d0).trans rfl
  go_enter Try.func15, Try.ntmps15
  go_wp2
  go_ret
  exact ⟨rfl, rfl⟩

theorem indexes_any (D : DraftAt base w d text fin us fs tag p v iv up m blk) : Calls Try.prog 17 #[.pointer (some ⟨d, 0, none⟩)] w fun e w' => e = .returned iv ∧ w' = w := by
  have c5 : w.cell? ⟨d, 5, none⟩ = some iv := (cell_of_row w d 5 _ _ _ D.d0).trans rfl
  go_enter Try.func17, Try.ntmps17
  go_wp2
  go_ret
  exact ⟨rfl, rfl⟩

set_option maxHeartbeats 400000 in
theorem usage_none (D : DraftAt base w d text fin none fs tag p v iv up m blk) : Calls Try.prog 16 #[.pointer (some ⟨d, 0, none⟩)] w fun e w' => e = .returned (.tuple #[.bool false, .int .i64 0, .int .i64 0]) ∧ Below w.heap.size w w' := by
  have hup : up = none := by rcases D.use with ⟨_, h⟩ | ⟨_, _, _, h, _⟩; exact h; cases h
  subst hup
  have c3 : w.cell? ⟨d, 3, none⟩ = some (.pointer none) := (cell_of_row w d 3 _ _ _ D.d0).trans rfl
  go_enter Try.func16, Try.ntmps16
  go_wp2
  go_ret3
  exact ⟨rfl, Below.refl _ _⟩

set_option maxHeartbeats 400000 in
theorem usage_some {a c : Int} (D : DraftAt base w d text fin (some (a, c)) fs tag p v iv up m blk) : Calls Try.prog 16 #[.pointer (some ⟨d, 0, none⟩)] w fun e w' => e = .returned (.tuple #[.bool true, .int .i64 a, .int .i64 c]) ∧ Below w.heap.size w w' := by
  obtain ⟨bu, hup, hb⟩ : ∃ bu, up = some ⟨bu, 0, none⟩ ∧ w.heap[bu]? = some (.cells #[.int .i64 a, .int .i64 c] 79 (0, 0)) := by
    rcases D.use with ⟨h, _⟩ | ⟨bu, x, y, h, h2, _, h4⟩
    · cases h
    · cases h; exact ⟨bu, h2, h4⟩
  subst hup
  have c3 : w.cell? ⟨d, 3, none⟩ = some (.pointer (some ⟨bu, 0, none⟩)) := (cell_of_row w d 3 _ _ _ D.d0).trans rfl
  have c4 : w.cell? ⟨bu, 0, none⟩ = some (.int .i64 a) := (cell_of_row w bu 0 _ _ _ hb).trans rfl
  have c5 : w.cell? ⟨bu, 1, none⟩ = some (.int .i64 c) := (cell_of_row w bu 1 _ _ _ hb).trans rfl
  go_enter Try.func16, Try.ntmps16
  go_wp2
  go_quiet (fail)
  go_wp2
  go_ret3
  exact ⟨rfl, below_drewN (Below.refl _ _) _⟩

set_option maxHeartbeats 400000 in
theorem count_any (D : DraftAt base w d text fin us fs tag p v iv up m blk) : Calls Try.prog 22 #[.pointer (some ⟨d, 0, none⟩)] w fun e w' => e = .returned (.int .i64 (firsts fs).length) ∧ w' = w := by
  have c4 : w.cell? ⟨d, 4, none⟩ = some (.map m) := (cell_of_row w d 4 _ _ _ D.d0).trans rfl
  have hln : ∀ ty, (Builtin.len_ #[38] ty #[.map m]).run Try.prog w = .ok (.int .i64 (firsts fs).length) w := by
    intro ty
    rcases D.mp with ⟨rfl, rfl⟩ | ⟨bm, es, clock, rfl, _, h3, h4⟩
    · exact Maps.len_nil Try.underlying38 ty
    · rw [← h4.1]
      simp [Builtin.len_, run_underlying Try.underlying38, MapKept.run_getObj_map h3, goInt, Result.andThen]
  go_enter Try.func22, Try.ntmps22
  go_wp2
  go_ret
  exact ⟨rfl, rfl⟩

set_option maxHeartbeats 1600000 in
set_option maxRecDepth 100000 in
theorem call_any (D : DraftAt base w d text fin us fs tag p v iv up m blk) {i : Nat} {k : Int} (hik : (firsts fs)[i]? = some k) : Calls Try.prog 19 #[.pointer (some ⟨d, 0, none⟩), .int .i64 k] w fun e w' =>
    ReadEnd base d text fin us fs tag p v iv up m blk w (.tuple #[.bool true, .string (firstOf (·.id) k fs), .string (firstOf (·.ty) k fs), .string (firstOf (·.nm) k fs), .string ⟨(catOf k fs).toArray⟩]) e w' := by
  have c4 : w.cell? ⟨d, 4, none⟩ = some (.map m) := (cell_of_row w d 4 _ _ _ D.d0).trans rfl
  have hlk : (Instr.lookup 38 (.map m) (.int .i64 k) false).run Try.prog w = .ok (.pointer (some ⟨blk i, 0, none⟩)) w := by
    rcases D.mp with ⟨_, h⟩ | ⟨bm, es, clock, rfl, _, h3, h4⟩
    · rw [h] at hik; simp [firsts] at hik
    · exact look_hit h3 h4 (firsts_nodup _) hik
  obtain ⟨hbt, q, u, hc, hq, hown, hut⟩ := D.calls i k hik
  have hne : u.ownBlock ≠ some (blk i) := fun e => by rw [hut _ e] at hbt; have := Option.some.inj hbt; omega
  have HS := fun W (hW : W.heap[blk i]? = w.heap[blk i]?) (ho : W.ownsRowF base 5 1 u (catOf k fs).length (Lib.byteCells (catOf k fs))) => string_any 75 4 (blk i) _ base u (catOf k fs) W (hW.trans hc) rfl ho hne
  have HS1 : Hid (Calls Try.prog 25 #[.pointer (some ⟨blk i, 4, none⟩)] w.drew (fun e w' => StringEnd (blk i) base u (catOf k fs) w.drew e w')) := HS w.drew rfl hown
  have d0 : w.cell? ⟨blk i, 0, none⟩ = some (.string (firstOf (·.id) k fs)) := (cell_of_row w _ 0 _ _ _ hc).trans rfl
  have d1 : w.cell? ⟨blk i, 1, none⟩ = some (.string (firstOf (·.ty) k fs)) := (cell_of_row w _ 1 _ _ _ hc).trans rfl
  have d2 : w.cell? ⟨blk i, 2, none⟩ = some (.string (firstOf (·.nm) k fs)) := (cell_of_row w _ 2 _ _ _ hc).trans rfl
  have HM : Hid (∀ w1, StringEnd (blk i) base u (catOf k fs) w.drew (.returned (.string ⟨(catOf k fs).toArray⟩)) w1 → ∃ tag', DraftAt base w1 d text fin us fs tag' p v iv up m blk ∧ Step tag tag' w w1) := by
    rintro w1 ⟨_, hb, ho, hf⟩
    obtain ⟨t', D', S'⟩ := (D.keep (w' := w.drew) (Nat.le_refl _) (fun _ _ _ => rfl)).onCall hik rfl (fun _ _ => ⟨rfl, rfl, rfl, rfl⟩) hc hut hq (hb.trans hc) ho (.inl rfl) hf
    exact ⟨t', D', (⟨rfl, rfl, rfl, Nat.le_refl _, fun _ _ => rfl, fun _ _ _ => rfl⟩ : Step tag tag w w.drew).trans S'⟩
  clear HS hown hut hq hne hbt
  go_enter Try.func19, Try.ntmps19
  go_wp2
  go_region_held3 (fun w' => w'.cell? ⟨blk i, 0, none⟩ = some (.string (firstOf (·.id) k fs)) ∧ w'.cell? ⟨blk i, 1, none⟩ = some (.string (firstOf (·.ty) k fs)) ∧ w'.cell? ⟨blk i, 2, none⟩ = some (.string (firstOf (·.nm) k fs))) (first | go_keep | exact ⟨e0, e1, e2⟩) ((go_at_call 25; refine HS1.out.mono ?_; rintro e w1 ⟨rfl, hb, ho, hf⟩; have hc1 := hb.trans hc; have e0 := (cell_of_row w1 _ 0 _ _ _ hc1).trans rfl; have e1 := (cell_of_row w1 _ 1 _ _ _ hc1).trans rfl; have e2 := (cell_of_row w1 _ 2 _ _ _ hc1).trans rfl))
  go_wp2
  exact bodyPost_ret (v := .tuple #[.bool true, .string (firstOf (·.id) k fs), .string (firstOf (·.ty) k fs), .string (firstOf (·.nm) k fs), .string ⟨(catOf k fs).toArray⟩]) (by simp [results, Try.results19, go_sem]) rfl ⟨rfl, HM.out _ ⟨rfl, hb, ho, hf⟩⟩
end

theorem hideS {p : Prop} (h : p) : Hid p := h

/-- The indexes' slice. -/
theorem iv_shape {w : World} {base n : Nat} {iv : Value} {xs : List Value} (h : w.ownsRow base 3 1 iv n xs) : ∃ a c, iv = .slice a n c := by
  rcases h.2 with ⟨h1, h2⟩ | ⟨g, cap, cur, h1, _⟩
  · exact ⟨none, 0, by rw [h1, h2]⟩
  · exact ⟨_, _, h1⟩

theorem bytes_back (t : ByteArray) : (⟨t.data.toList.toArray⟩ : ByteArray) = t := by cases t; simp

set_option maxHeartbeats 4000000 in
set_option maxRecDepth 100000 in
/-- The draft is just the model: 'yes'; it reads as it did. -/
theorem same_any (base d : Nat) (fin text : ByteArray) (us : Option (Int × Int)) (tag : Nat → Option Nat) (p v iv : Value) (up : Option Addr) (m : Option Nat) (blk : Nat → Nat) (w w00 : World) (zs : List Int) (s7 s8 s9 s10 : List ByteArray) (n : Nat) (a6 a7 a8 a9 a10 : Option Addr) (c6 c7 c8 c9 c10 : Nat) (hu : Bool) (pr co : Int)
    (D : DraftAt base w d text.data.toList fin us (fr zs s7 s8 s9 s10 n) tag p v iv up m blk) (hus : us = if hu then some (pr, co) else none) (hw00 : w00.heap.size ≤ base) (hbw : Below w00.heap.size w00 w)
    (h6 : IsInts .i64 w00 a6 n zs) (h7 : IsStrs w00 a7 n s7) (h8 : IsStrs w00 a8 n s8) (h9 : IsStrs w00 a9 n s9) (h10 : IsStrs w00 a10 n s10) (hn : n ≤ 65536) (hcat : ∀ k, (catOf k (fr zs s7 s8 s9 s10 n)).length ≤ 1099511627776) :
    Calls Try.prog 11 #[.pointer (some ⟨d, 0, none⟩), .string text, .string fin, .bool hu, .int .i64 pr, .int .i64 co, .slice a6 n c6, .slice a7 n c7, .slice a8 n c8, .slice a9 n c9, .slice a10 n c10] w fun e w' =>
      ReadEnd base d text.data.toList fin us (fr zs s7 s8 s9 s10 n) tag p v iv up m blk w (.bool true) e w' := by
  have HB : Hid (∀ t' W, Step tag t' w W → Below w00.heap.size w00 W) := fun t' W S => hbw.trans ((S.below D.bsz D.low).mono hw00)
  clear hbw
  obtain ⟨ai, ci, rfl⟩ := iv_shape D.idx
  have HT := text_any D
  rw [bytes_back] at HT
  have HT' := hideS HT
  clear HT
  have hzl : zs.length = n := h6.len_eq
  have HZ : Hid (zs.length = n) := hzl
  clear hzl
  cases hu
  case' false =>
    have hu0 : us = none := by simpa using hus
    subst hu0
    go_enter Try.func11, Try.ntmps11
    go_wp2_with fail
    refine HT'.out.mono ?_
    rintro e w1 ⟨rfl, t1, D1, S1⟩
    go_wp2_with fail
    refine (finish_any D1).mono ?_
    rintro e w2 ⟨rfl, hw⟩
    subst hw
    go_wp2_with fail
    refine (usage_none D1).mono ?_
    rintro e w3 ⟨rfl, hb3⟩
  case' true =>
    have hu0 : us = some (pr, co) := by simpa using hus
    subst hu0
    go_enter Try.func11, Try.ntmps11
    go_wp2_with fail
    refine HT'.out.mono ?_
    rintro e w1 ⟨rfl, t1, D1, S1⟩
    go_wp2_with fail
    refine (finish_any D1).mono ?_
    rintro e w2 ⟨rfl, hw⟩
    subst hw
    go_wp2_with fail
    refine (usage_some D1).mono ?_
    rintro e w3 ⟨rfl, hb3⟩
  all_goals
    have D3 := D1.below hb3
    have S3 := S1.trans (Step.of_below (tag := t1) hb3)
    clear D1 S1 hb3 HT'
    go_wp2_with fail
    refine (indexes_any D3).mono ?_
    rintro e w4 ⟨rfl, hw⟩
    subst hw
    go_wp2
    go_loopw [27, 28, 29, 30, 31, 32, 33] (fun q i _ _ _ _ _ wr => ∃ k : Nat, k ≤ n ∧ i = .int .i64 k ∧ q = .int .i64 (firsts ((fr zs s7 s8 s9 s10 n).take k)).length ∧ ∃ t', DraftAt base wr d text.data.toList fin _ (fr zs s7 s8 s9 s10 n) t' p v (.slice ai (firsts (fr zs s7 s8 s9 s10 n)).length ci) up m blk ∧ Step tag t' w wr) (fun _ i _ _ _ _ _ _ => n - (intOf i).toNat)
    case atStart => exact ⟨0, Nat.zero_le _, rfl, rfl, t1, D3, S3⟩
    case round =>
      obtain ⟨k, hk, rfl, rfl, t', DR, SR⟩ := hrel
      clear D3 S3
      by_cases hlt : k < n
      · have hfk := fr_at (zs := zs) (a := s7) (b := s8) (c := s9) (r := s10) hlt
        have hbR := HB.out _ _ SR
        go_wp2_with fail
        refine (seen_any a6 n c6 k zs wr (h6.below hbR) hn hlt).mono ?_
        rintro e wa ⟨rfl, hba⟩
        rw [seen_iff (a := s7) (b := s8) (c := s9) (r := s10) hlt HZ.out]
        have Da := DR.below hba
        have Sa := SR.trans (Step.of_below (tag := t') hba)
        clear DR SR hba hbR
        by_cases hold : zs.getD k 0 ∈ firsts ((fr zs s7 s8 s9 s10 n).take k)
        · have hlen : firsts ((fr zs s7 s8 s9 s10 n).take (k + 1)) = firsts ((fr zs s7 s8 s9 s10 n).take k) := firsts_old hfk hold
          rw [decide_eq_true hold]
          have HL : Hid (firsts ((fr zs s7 s8 s9 s10 n).take (k + 1)) = firsts ((fr zs s7 s8 s9 s10 n).take k)) := hlen
          clear hlen hold
          go_wp2_with fail
          go_roundw
          case rel => exact ⟨k + 1, by omega, by go_num, by rw [HL.out], t', Da, Sa⟩
          case measure => simp [intOf]; omega
        · rw [decide_eq_false hold]
          obtain ⟨hpl, hnx⟩ := firsts_place hfk hold
          obtain ⟨x, hx⟩ : ∃ x, x = zs.getD k 0 := ⟨_, rfl⟩
          obtain ⟨q, hq⟩ : ∃ q, q = (firsts ((fr zs s7 s8 s9 s10 n).take k)).length := ⟨_, rfl⟩
          have hpl' : (firsts (fr zs s7 s8 s9 s10 n))[q]? = some x := by rw [hx, hq]; exact hpl
          have hql : q < (firsts (fr zs s7 s8 s9 s10 n)).length := (List.getElem?_eq_some_iff.1 hpl').1
          have hqn : q ≤ 65536 := by have := firsts_length_le (fr zs s7 s8 s9 s10 n); rw [fr_length] at this; omega
          have hnx' : (firsts ((fr zs s7 s8 s9 s10 n).take (k + 1))).length = q + 1 := by rw [hnx, hq]; simp
          have f7 := first_from (·.id) s7 hlt hold (fun j hj f hf => by rw [fr_at hj] at hf; rw [← Option.some.inj hf])
          have f8 := first_from (·.ty) s8 hlt hold (fun j hj f hf => by rw [fr_at hj] at hf; rw [← Option.some.inj hf])
          have f9 := first_from (·.nm) s9 hlt hold (fun j hj f hf => by rw [fr_at hj] at hf; rw [← Option.some.inj hf])
          have f10 := cat_from (zs := zs) (a := s7) (b := s8) (c := s9) (r := s10) hlt hold
          have G7 : ∀ W t', Step tag t' w W → Calls Try.prog 20 #[.slice a6 n c6, .slice a7 n c7, .int .i64 k] W fun e w' => e = .returned (.string (firstOf (·.id) x (fr zs s7 s8 s9 s10 n))) ∧ w' = W := fun W t' S => by rw [hx, f7]; exact first_any a6 a7 n c6 c7 k zs s7 W (h6.below (HB.out _ _ S)) (h7.below (HB.out _ _ S)) hn hlt
          have G8 : ∀ W t', Step tag t' w W → Calls Try.prog 20 #[.slice a6 n c6, .slice a8 n c8, .int .i64 k] W fun e w' => e = .returned (.string (firstOf (·.ty) x (fr zs s7 s8 s9 s10 n))) ∧ w' = W := fun W t' S => by rw [hx, f8]; exact first_any a6 a8 n c6 c8 k zs s8 W (h6.below (HB.out _ _ S)) (h8.below (HB.out _ _ S)) hn hlt
          have G9 : ∀ W t', Step tag t' w W → Calls Try.prog 20 #[.slice a6 n c6, .slice a9 n c9, .int .i64 k] W fun e w' => e = .returned (.string (firstOf (·.nm) x (fr zs s7 s8 s9 s10 n))) ∧ w' = W := fun W t' S => by rw [hx, f9]; exact first_any a6 a9 n c6 c9 k zs s9 W (h6.below (HB.out _ _ S)) (h9.below (HB.out _ _ S)) hn hlt
          have hcx : (⟨(catOf x (fr zs s7 s8 s9 s10 n)).toArray⟩ : ByteArray).size ≤ 1099511627776 := by rw [Lib.size_eq]; simpa using hcat x
          have G10 := fun W t' (S : Step tag t' w W) => concat_any ⟨(catOf x (fr zs s7 s8 s9 s10 n)).toArray⟩ a6 a10 n c6 c10 k zs s10 W (h6.below (HB.out _ _ S)) (h10.below (HB.out _ _ S)) hn hlt hcx (by rw [hx]; simpa using f10)
          replace G7 := hideS G7
          replace G8 := hideS G8
          replace G9 := hideS G9
          replace G10 := hideS G10
          have HN := hideS hnx'
          have HQ := hideS hq
          obtain ⟨bz, oz, ez, _, hz⟩ := (h6.below (HB.out _ _ Sa)).at_ (by omega)
          have hix := fun W => index_run (P := Try.prog) Try.underlying22 size3 ez c6 k hlt W
          have hcz : wa.cell? ⟨bz, oz + k, none⟩ = some (.int .i64 x) := by rw [hx]; exact hz k hlt
          obtain ⟨gi, hgi⟩ : ∃ gi, ai = some ⟨gi, 0, none⟩ := by
            rcases Da.idx.2 with ⟨_, h0⟩ | ⟨g, cap, cur, h1, _⟩
            · omega
            · injection h1 with h1; exact ⟨g, h1⟩
          have hci : wa.cell? ⟨gi, q, none⟩ = some (.int .i64 x) := by
            have hid := Da.idx
            rw [hgi] at hid
            rw [hid.cellAt q (by omega), List.getElem?_map, hpl']; rfl
          have hiq : ∀ W, (Instr.indexAt 22 (.slice ai (firsts (fr zs s7 s8 s9 s10 n)).length ci) (.int .i64 (q : Int))).run Try.prog W = .ok (.pointer (some ⟨gi, q, none⟩)) W := fun W => by have := index_run (P := Try.prog) Try.underlying22 size3 hgi ci q hql W; rwa [Nat.zero_add] at this
          have hgd : decide (((firsts (fr zs s7 s8 s9 s10 n)).length : Int) ≤ (q : Int)) = false := decide_eq_false (by omega)
          rw [← hq]
          clear hz ez hold hpl hnx f7 f8 f9 f10 hfk hx hq hgi hnx' hcx
          go_wp2
          go_quiet (fail)
          go_wp2_with fail
          refine (call_any (Da.keep (w' := wa.drewN nq) (Nat.le_refl _) (fun _ _ _ => rfl)) hpl').mono ?_
          rintro e wb ⟨rfl, tb, Db, Sb⟩
          replace Sb := (Sa.trans (⟨rfl, rfl, rfl, Nat.le_refl _, fun _ _ => rfl, fun _ _ _ => rfl⟩ : Step t' t' wa (wa.drewN nq))).trans Sb
          clear Da Sa hix hiq hcz hci hgd
          go_wp2_with fail
          refine (G7.out _ _ Sb).mono ?_
          rintro e wc ⟨rfl, hw⟩
          subst hw
          go_wp2_with fail
          refine (G8.out _ _ Sb).mono ?_
          rintro e wc ⟨rfl, hw⟩
          subst hw
          go_wp2_with fail
          refine (G9.out _ _ Sb).mono ?_
          rintro e wc ⟨rfl, hw⟩
          subst hw
          go_wp2_with fail
          refine (G10.out _ _ Sb).mono ?_
          rintro e wd ⟨rfl, hbd⟩
          have Dd := Db.below hbd
          have Sd := Sb.trans (Step.of_below (tag := tb) hbd)
          clear Db Sb hbd G7 G8 G9 G10
          go_wp2_with fail
          go_roundw
          case rel => exact ⟨k + 1, by omega, by go_num, by rw [HN.out]; go_num, tb, Dd, Sd⟩
          case measure => simp [intOf]; omega
      · have htk : (fr zs s7 s8 s9 s10 n).take k = fr zs s7 s8 s9 s10 n := List.take_of_length_le (by rw [fr_length]; omega)
        rw [htk]
        clear htk
        go_wp2_with fail
        refine (count_any DR).mono ?_
        rintro e wc ⟨rfl, hw⟩
        subst hw
        go_wp2_with fail
        go_ret
        exact ⟨rfl, t', DR, SR⟩
end Go.Proofs.Qxb6605202a
