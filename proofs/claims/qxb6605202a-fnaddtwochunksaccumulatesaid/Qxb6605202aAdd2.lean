import Derived.Test.Qxb6605202aAdd
namespace Go.Proofs.Qxb6605202a
open Go.RowKit

attribute [local go_sem ↓] Go.wp_at_zero Go.wp_at_succ

set_option maxHeartbeats 1600000 in
set_option maxRecDepth 100000 in
/-- A chunk without a choice. -/
theorem add_none (base d : Nat) (text : List UInt8) (fin : ByteArray) (us : Option (Int × Int)) (fs : List Frag) (tag : Nat → Option Nat) (p v iv : Value) (up : Option Addr) (m : Option Nat) (blk : Nat → Nat) (w : World)
    (D : DraftAt base w d text fin us fs tag p v iv up m blk) (use : Option (Int × Int)) (cu : Option Addr) (hU : ChunkUse w tag use cu) :
    Calls Try.prog 13 #[.pointer (some ⟨d, 0, none⟩), .agg #[.slice none 0 0, .pointer cu, .pointer none]] w fun e w' => AddEnd base d text fin (use.or us) fs tag w e w' := by
  have hb1 : Below w.heap.size w (w.alloc (.cells #[.slice none 0 0, .pointer cu, .pointer none] 45)) := (Below.refl _ _).alloc (Nat.le_refl _) _
  rcases hU with ⟨rfl, rfl⟩ | ⟨U, a, c, rfl, rfl, hUt, hUb⟩
  · go_enter Try.func13, Try.ntmps13
    go_wp2
    go_end0
    exact ⟨rfl, tag, p, v, iv, up, m, blk, D.below hb1, Step.of_below hb1⟩
  · go_enter Try.func13, Try.ntmps13
    go_wp2
    have b1 := heap_alloc_new w (.cells #[.slice none 0 0, .pointer (some ⟨U, 0, none⟩), .pointer none] 45)
    refine abs_world (fun Z => DraftAt base Z d text fin us fs tag p v iv up m blk ∧ Step tag tag w Z ∧ Z.heap[U]? = some (.cells #[.int .i64 a, .int .i64 c] 54 (0, 0)) ∧ Z.cell? ⟨w.heap.size, 1, none⟩ = some (.pointer (some ⟨U, 0, none⟩))) ⟨D.below hb1, Step.of_below hb1, (hb1.block U (lt_block hUb)).trans hUb, (cell_of_row _ _ 1 _ _ _ b1).trans rfl⟩ ?_
    rintro Z ⟨DZ, SZ, hUZ, cZ⟩
    have cu0 : Z.cell? ⟨U, 0, none⟩ = some (.int .i64 a) := (cell_of_row Z _ 0 _ _ _ hUZ).trans rfl
    have cu1 : Z.cell? ⟨U, 1, none⟩ = some (.int .i64 c) := (cell_of_row Z _ 1 _ _ _ hUZ).trans rfl
    have cd3 : Z.cell? ⟨d, 3, none⟩ = some (.pointer up) := (cell_of_row Z d 3 _ _ _ DZ.d0).trans rfl
    have fd3 : Z.frozen? ⟨d, 3, none⟩ = false := frozen_of_row Z d 3 _ _ DZ.d0
    have hdZ : d < Z.heap.size := lt_block DZ.d0
    clear b1 hb1
    go_region
    all_goals go_wp2
    all_goals go_end0
    all_goals (obtain ⟨t9, D9, S9⟩ := use_world DZ a c; exact ⟨rfl, t9, _, _, _, _, _, _, D9, SZ.trans S9⟩)

/-- The cells of fragment f in the row of a chunk's tool calls. -/
def FragAt (ct : Array Value) (j : Nat) (f : Frag) : Prop :=
  ct[j * 5]? = some (.int .i64 f.k) ∧ ct[j * 5 + 1]? = some (.string f.id) ∧ ct[j * 5 + 2]? = some (.string f.ty) ∧ ct[j * 5 + 3]? = some (.string f.nm) ∧ ct[j * 5 + 4]? = some (.string f.ar)

/-- The chunk's choices in block C0: the first one known. -/
def ChoiceAt (w : World) (C0 n : Nat) (content finish : ByteArray) (ta : Option Addr) (tl tc : Nat) : Prop :=
  ∃ cur, w.heap[C0]? = some (.cells cur 48 (0, 0)) ∧ cur.size = (n + 1) * 3 ∧ cur[0]? = some (.string content) ∧ cur[1]? = some (.slice ta tl tc) ∧ cur[2]? = some (.string finish)

theorem ChoiceAt.set {w : World} {C0 n : Nat} {content finish : ByteArray} {ta : Option Addr} {tl tc : Nat} (h : ChoiceAt w C0 n content finish ta tl tc) (o : Nat) (ho : 3 ≤ o) (v : Value) : ChoiceAt (w.setCell ⟨C0, o, none⟩ v) C0 n content finish ta tl tc := by
  obtain ⟨cur, hb, hs, h0, h1, h2⟩ := h
  refine ⟨_, heap_setCell_same w C0 o cur 48 v hb, by simpa using hs, ?_, ?_, ?_⟩
  · rw [Array.getElem?_setIfInBounds_ne (by omega)]; exact h0
  · rw [Array.getElem?_setIfInBounds_ne (by omega)]; exact h1
  · rw [Array.getElem?_setIfInBounds_ne (by omega)]; exact h2

theorem ChoiceAt.cell {w : World} {C0 n : Nat} {content finish : ByteArray} {ta : Option Addr} {tl tc : Nat} (h : ChoiceAt w C0 n content finish ta tl tc) (o : Nat) (ho : o < (n + 1) * 3) : (∃ v, w.cell? ⟨C0, o, none⟩ = some v) ∧ w.frozen? ⟨C0, o, none⟩ = false := by
  obtain ⟨cur, hb, hs, _⟩ := h
  exact ⟨⟨cur[o]'(by omega), (cell_of_row w C0 o cur 48 _ hb).trans (Array.getElem?_eq_getElem (by omega))⟩, frozen_of_row w C0 o cur 48 hb⟩

theorem ChoiceAt.same {w w' : World} {C0 n : Nat} {content finish : ByteArray} {ta : Option Addr} {tl tc : Nat} (h : ChoiceAt w C0 n content finish ta tl tc) (hb : w'.heap[C0]? = w.heap[C0]?) : ChoiceAt w' C0 n content finish ta tl tc := by
  obtain ⟨cur, h1, h2⟩ := h
  exact ⟨cur, hb.trans h1, h2⟩

theorem Try.info48 : (Try.prog.info? 48).map (fun i => (i.zero, i.size, i.bytes)) = some (some (.agg #[.string ⟨#[]⟩, .slice none 0 0, .string ⟨#[]⟩]), 3, 56) := by kernel_rfl
theorem Try.info52 : (Try.prog.info? 52).map (fun i => (i.zero, i.size, i.bytes)) = some (some (.agg #[.int .i64 0, .string ⟨#[]⟩, .string ⟨#[]⟩, .string ⟨#[]⟩, .string ⟨#[]⟩]), 5, 72) := by kernel_rfl

/-- The row that a 'make' has laid, as a block. -/
theorem row_block {w : World} {base g n size : Nat} {e : TypeId} {z : Array Value} (h : w.ownsRow base e size (.slice (some ⟨g, 0, none⟩) n n) n (madeCells z (n * size)).toList) : w.heap[g]? = some (.cells (madeCells z (n * size)) e (0, 0)) := by
  rcases h.2 with ⟨hv, _⟩ | ⟨g', cap, cur, hv, _, hg, hnc, _, hcs, htake⟩
  · cases hv
  · injection hv with ha _ hcap
    injection ha with ha
    injection ha with hgg _ _
    subst hgg
    subst hcap
    rw [hg]
    have : cur = madeCells z (n * size) := by
      apply Array.toList_inj.1
      rw [← htake, List.take_of_length_le (by rw [Array.length_toList, hcs]; exact Nat.le_refl _)]
    rw [this]

theorem made_at {z : Array Value} {N i : Nat} (h : i < N) : (madeCells z N)[i]? = some (z[i % z.size]!) := by
  simp [madeCells, h]
end Go.Proofs.Qxb6605202a
