import Derived.Test.Qxb6605202aAdd2
namespace Go.Proofs.Qxb6605202a
open Go.RowKit

attribute [local go_sem ↓] Go.wp_at_zero Go.wp_at_succ

def useOf (hu : Bool) (pr co : Int) : Option (Int × Int) := if hu then some (pr, co) else none

/-- What a fresh row of choices holds. -/
theorem made_choices {w wa : World} {o : Obj} {n : Nat} {cs : Array Value} (hcs : o = .cells cs 45 (0, 0)) (hown : wa.ownsRow (w.heap.size + 1) 48 3 (.slice (some ⟨(w.alloc o).heap.size, 0, none⟩) (n + 1) (n + 1)) (n + 1) (madeCells (Value.agg #[.string ⟨#[]⟩, .slice none 0 0, .string ⟨#[]⟩]).cells ((n + 1) * 3)).toList) (hgrow : (w.alloc o).grownBy wa none) :
    Below w.heap.size w wa ∧ wa.heap[w.heap.size]? = some (.cells cs 45 (0, 0)) ∧ wa.heap[w.heap.size + 1]? = some (.cells (madeCells #[.string ⟨#[]⟩, .slice none 0 0, .string ⟨#[]⟩] ((n + 1) * 3)) 48 (0, 0)) := by
  have hb : Below w.heap.size w (w.alloc o) := (Below.refl _ _).alloc (Nat.le_refl _) _
  have hb2 := hb.grown hgrow hb.size (by intro k hk; cases hk)
  have hr := row_block hown
  have hs : (w.alloc o).heap.size = w.heap.size + 1 := by simp
  rw [hs] at hr
  refine ⟨hb2, ?_, hr⟩
  rw [← hcs]
  exact (hgrow.block _ (by omega) (by simp)).trans (heap_alloc_new w o)

/-- The chunk under way: its own block s, the choices in the next one. -/
structure ChunkAt (w Z : World) (n : Nat) (content finish : ByteArray) (ta : Option Addr) (tl tc : Nat) : Prop where
  bel : Below w.heap.size w Z
  blk : Z.heap[w.heap.size]? = some (.cells #[.slice (some ⟨w.heap.size + 1, 0, none⟩) (n + 1) (n + 1), .pointer none, .pointer none] 45 (0, 0))
  cho : ChoiceAt Z (w.heap.size + 1) n content finish ta tl tc
  lt : w.heap.size + 1 < Z.heap.size

theorem start_world {w wa : World} {n : Nat} (content finish : ByteArray) (hbw : Below w.heap.size w wa) (kb : wa.heap[w.heap.size]? = some (.cells #[.slice none 0 0, .pointer none, .pointer none] 45 (0, 0))) (kc : wa.heap[w.heap.size + 1]? = some (.cells (madeCells #[.string ⟨#[]⟩, .slice none 0 0, .string ⟨#[]⟩] ((n + 1) * 3)) 48 (0, 0))) :
    ChunkAt w (((wa.setCell ⟨w.heap.size, 0, none⟩ (.slice (some ⟨w.heap.size + 1, 0, none⟩) (n + 1) (n + 1))).setCell ⟨w.heap.size + 1, 0, none⟩ (.string content)).setCell ⟨w.heap.size + 1, 2, none⟩ (.string finish)) n content finish none 0 0 := by
  have hlt := lt_block kc
  have e1 := heap_setCell_same wa w.heap.size 0 _ _ (.slice (some ⟨w.heap.size + 1, 0, none⟩) (n + 1) (n + 1)) kb
  have e2 := (Below.heap_setCell wa ⟨w.heap.size, 0, none⟩ (.slice (some ⟨w.heap.size + 1, 0, none⟩) (n + 1) (n + 1)) (w.heap.size + 1) (by simp)).trans kc
  have e3 := heap_setCell_same _ (w.heap.size + 1) 0 _ _ (.string content) e2
  have e4 := heap_setCell_same _ (w.heap.size + 1) 2 _ _ (.string finish) e3
  refine ⟨((hbw.setCell (Nat.le_refl _) _).setCell (Nat.le_succ _) _).setCell (Nat.le_succ _) _, ?_, ⟨_, e4, by simp [size_madeCells], ?_, ?_, ?_⟩, by simpa using hlt⟩
  · exact (Below.heap_setCell _ ⟨w.heap.size + 1, 2, none⟩ _ _ (by simp)).trans ((Below.heap_setCell _ ⟨w.heap.size + 1, 0, none⟩ _ _ (by simp)).trans (e1.trans rfl))
  · rw [Array.getElem?_setIfInBounds_ne (by omega), Array.getElem?_setIfInBounds_self_of_lt (by rw [size_madeCells]; omega)]
  · rw [Array.getElem?_setIfInBounds_ne (by omega), Array.getElem?_setIfInBounds_ne (by omega), made_at (by omega)]; rfl
  · rw [Array.getElem?_setIfInBounds_self_of_lt (by simp [size_madeCells]; omega)]

/-- The row of tool calls, filled as far as k. -/
def RowTo (Z : World) (T tl k : Nat) (news : List Frag) : Prop := ∃ ct, Z.heap[T]? = some (.cells ct 52 (0, 0)) ∧ ct.size = tl * 5 ∧ ∀ j f, j < k → news[j]? = some f → FragAt ct j f

theorem RowTo.step {Z : World} {T tl k : Nat} {news : List Frag} {f : Frag} (h : RowTo Z T tl k news) (hk : k < tl) (hf : news[k]? = some f) :
    RowTo (((((Z.setCell ⟨T, k * 5, none⟩ (.int .i64 f.k)).setCell ⟨T, k * 5 + 1, none⟩ (.string f.id)).setCell ⟨T, k * 5 + 2, none⟩ (.string f.ty)).setCell ⟨T, k * 5 + 3, none⟩ (.string f.nm)).setCell ⟨T, k * 5 + 4, none⟩ (.string f.ar)) T tl (k + 1) news := by
  obtain ⟨ct, hb, hs, hall⟩ := h
  have e1 := heap_setCell_same Z T (k * 5) _ _ (.int .i64 f.k) hb
  have e2 := heap_setCell_same _ T (k * 5 + 1) _ _ (.string f.id) e1
  have e3 := heap_setCell_same _ T (k * 5 + 2) _ _ (.string f.ty) e2
  have e4 := heap_setCell_same _ T (k * 5 + 3) _ _ (.string f.nm) e3
  have e5 := heap_setCell_same _ T (k * 5 + 4) _ _ (.string f.ar) e4
  refine ⟨_, e5, by simpa using hs, fun j g hj hg => ?_⟩
  by_cases hjk : j = k
  · subst hjk
    rw [hf] at hg
    obtain rfl := Option.some.inj hg
    refine ⟨?_, ?_, ?_, ?_, ?_⟩
    · rw [Array.getElem?_setIfInBounds_ne (by omega), Array.getElem?_setIfInBounds_ne (by omega), Array.getElem?_setIfInBounds_ne (by omega), Array.getElem?_setIfInBounds_ne (by omega), Array.getElem?_setIfInBounds_self_of_lt (by first | omega | (simp only [Array.size_setIfInBounds]; omega))]
    · rw [Array.getElem?_setIfInBounds_ne (by omega), Array.getElem?_setIfInBounds_ne (by omega), Array.getElem?_setIfInBounds_ne (by omega), Array.getElem?_setIfInBounds_self_of_lt (by first | omega | (simp only [Array.size_setIfInBounds]; omega))]
    · rw [Array.getElem?_setIfInBounds_ne (by omega), Array.getElem?_setIfInBounds_ne (by omega), Array.getElem?_setIfInBounds_self_of_lt (by first | omega | (simp only [Array.size_setIfInBounds]; omega))]
    · rw [Array.getElem?_setIfInBounds_ne (by omega), Array.getElem?_setIfInBounds_self_of_lt (by first | omega | (simp only [Array.size_setIfInBounds]; omega))]
    · rw [Array.getElem?_setIfInBounds_self_of_lt (by first | omega | (simp only [Array.size_setIfInBounds]; omega))]
  · have hlt : j < k := by omega
    obtain ⟨g0, g1, g2, g3, g4⟩ := hall j g hlt hg
    refine ⟨?_, ?_, ?_, ?_, ?_⟩
    · rw [Array.getElem?_setIfInBounds_ne (by omega), Array.getElem?_setIfInBounds_ne (by omega), Array.getElem?_setIfInBounds_ne (by omega), Array.getElem?_setIfInBounds_ne (by omega), Array.getElem?_setIfInBounds_ne (by omega)]; exact g0
    · rw [Array.getElem?_setIfInBounds_ne (by omega), Array.getElem?_setIfInBounds_ne (by omega), Array.getElem?_setIfInBounds_ne (by omega), Array.getElem?_setIfInBounds_ne (by omega), Array.getElem?_setIfInBounds_ne (by omega)]; exact g1
    · rw [Array.getElem?_setIfInBounds_ne (by omega), Array.getElem?_setIfInBounds_ne (by omega), Array.getElem?_setIfInBounds_ne (by omega), Array.getElem?_setIfInBounds_ne (by omega), Array.getElem?_setIfInBounds_ne (by omega)]; exact g2
    · rw [Array.getElem?_setIfInBounds_ne (by omega), Array.getElem?_setIfInBounds_ne (by omega), Array.getElem?_setIfInBounds_ne (by omega), Array.getElem?_setIfInBounds_ne (by omega), Array.getElem?_setIfInBounds_ne (by omega)]; exact g3
    · rw [Array.getElem?_setIfInBounds_ne (by omega), Array.getElem?_setIfInBounds_ne (by omega), Array.getElem?_setIfInBounds_ne (by omega), Array.getElem?_setIfInBounds_ne (by omega), Array.getElem?_setIfInBounds_ne (by omega)]; exact g4

theorem RowTo.at_ {Z : World} {T tl k : Nat} {news : List Frag} (h : RowTo Z T tl k news) (o : Nat) (ho : o < tl * 5) : (∃ v, Z.cell? ⟨T, o, none⟩ = some v) ∧ Z.frozen? ⟨T, o, none⟩ = false := by
  obtain ⟨ct, hb, hs, _⟩ := h
  exact ⟨⟨ct[o]'(by omega), (cell_of_row Z T o ct 52 _ hb).trans (Array.getElem?_eq_getElem (by omega))⟩, frozen_of_row Z T o ct 52 hb⟩

theorem RowTo.frags {Z : World} {T tl : Nat} {news : List Frag} (h : RowTo Z T tl tl news) (hl : news.length = tl) : IsFrags Z (some ⟨T, 0, none⟩) tl news T := by
  obtain ⟨ct, hb, hs, hall⟩ := h
  refine ⟨hl, fun _ => rfl, fun _ => lt_block hb, fun j f hj => ?_⟩
  have hlt : j < tl := by rw [← hl]; exact (List.getElem?_eq_some_iff.1 hj).1
  obtain ⟨g0, g1, g2, g3, g4⟩ := hall j f hlt hj
  exact ⟨(cell_of_row Z T _ ct 52 _ hb).trans g0, (cell_of_row Z T _ ct 52 _ hb).trans g1, (cell_of_row Z T _ ct 52 _ hb).trans g2, (cell_of_row Z T _ ct 52 _ hb).trans g3, (cell_of_row Z T _ ct 52 _ hb).trans g4⟩

theorem ChunkAt.rows {w Z : World} {n T : Nat} {content finish : ByteArray} {ta : Option Addr} {tl tc : Nat} (h : ChunkAt w Z n content finish ta tl tc) (h0 : w.heap.size < T) (h1 : w.heap.size + 1 < T) {i0 i1 i2 i3 i4 : Nat} (v0 v1 v2 v3 v4 : Value) :
    ChunkAt w (((((Z.setCell ⟨T, i0, none⟩ v0).setCell ⟨T, i1, none⟩ v1).setCell ⟨T, i2, none⟩ v2).setCell ⟨T, i3, none⟩ v3).setCell ⟨T, i4, none⟩ v4) n content finish ta tl tc := by
  have step : ∀ {Z : World} (i : Nat) (u : Value), ChunkAt w Z n content finish ta tl tc → ChunkAt w (Z.setCell ⟨T, i, none⟩ u) n content finish ta tl tc := fun i u h =>
    ⟨h.bel.setCell (Nat.le_of_lt h0) _, (Below.heap_setCell _ ⟨T, i, none⟩ _ _ (Nat.ne_of_lt h0)).trans h.blk, h.cho.same (Below.heap_setCell _ ⟨T, i, none⟩ _ _ (Nat.ne_of_lt h1)), by simpa using h.lt⟩
  exact step _ _ (step _ _ (step _ _ (step _ _ (step _ _ h))))

theorem IsFrags.same {w w' : World} {a : Option Addr} {len : Nat} {news : List Frag} {T0 : Nat} (h : IsFrags w a len news T0) (hb : w'.heap[T0]? = w.heap[T0]?) (hs : w.heap.size ≤ w'.heap.size) : IsFrags w' a len news T0 := by
  have hc : ∀ o, w'.cell? ⟨T0, o, none⟩ = w.cell? ⟨T0, o, none⟩ := fun o => World.cell?_of_block (w := w) hb
  refine ⟨h.len_eq, h.ad, fun h0 => Nat.lt_of_lt_of_le (h.lt h0) hs, fun j f hj => ?_⟩
  obtain ⟨g0, g1, g2, g3, g4⟩ := h.at_ j f hj
  exact ⟨(hc _).trans g0, (hc _).trans g1, (hc _).trans g2, (hc _).trans g3, (hc _).trans g4⟩

theorem IsFrags.none {w : World} {a : Option Addr} {len : Nat} {news : List Frag} {T0 : Nat} (h0 : len = 0) (hl : news.length = len) : IsFrags w a len news T0 := by
  subst h0
  obtain rfl := List.length_eq_zero_iff.1 hl
  exact ⟨rfl, fun h => absurd h (by omega), fun h => absurd h (by omega), fun j f hj => by simp at hj⟩

theorem size_alloc_le (V : World) (ob : Obj) : V.heap.size ≤ (V.alloc ob).heap.size := by
  rw [World.alloc]
  simp

theorem ChunkAt.more {w Z : World} {n : Nat} {content finish : ByteArray} {ta : Option Addr} {tl tc : Nat} (h : ChunkAt w Z n content finish ta tl tc) {i0 i1 i2 : Nat} (h0 : 3 ≤ i0) (h1 : 3 ≤ i1) (h2 : 3 ≤ i2) (v0 v1 v2 : Value) (o : Obj) {a : Option Addr} {len T0 : Nat} {news : List Frag} (hF : IsFrags Z a len news T0) (hT : w.heap.size + 1 < T0) (hT2 : T0 < Z.heap.size ∨ len = 0) :
    ChunkAt w ((((Z.setCell ⟨w.heap.size + 1, i0, none⟩ v0).setCell ⟨w.heap.size + 1, i1, none⟩ v1).setCell ⟨w.heap.size + 1, i2, none⟩ v2).alloc o) n content finish ta tl tc ∧ IsFrags ((((Z.setCell ⟨w.heap.size + 1, i0, none⟩ v0).setCell ⟨w.heap.size + 1, i1, none⟩ v1).setCell ⟨w.heap.size + 1, i2, none⟩ v2).alloc o) a len news T0 := by
  have step : ∀ {Z : World} (i : Nat) (u : Value), 3 ≤ i → ChunkAt w Z n content finish ta tl tc → ChunkAt w (Z.setCell ⟨w.heap.size + 1, i, none⟩ u) n content finish ta tl tc := fun i u hi h =>
    ⟨h.bel.setCell (Nat.le_succ _) _, (Below.heap_setCell _ ⟨w.heap.size + 1, i, none⟩ _ _ (by simp)).trans h.blk, h.cho.set i hi u, by simpa using h.lt⟩
  have h3 := step i2 v2 h2 (step i1 v1 h1 (step i0 v0 h0 h))
  have hlt := h3.lt
  refine ⟨⟨h3.bel.alloc (by omega) _, (Below.heap_alloc _ _ _ (by omega)).trans h3.blk, h3.cho.same (Below.heap_alloc _ _ _ hlt), Nat.lt_of_lt_of_le hlt (size_alloc_le _ _)⟩, ?_⟩
  rcases hT2 with hT2 | h0
  · refine hF.same ?_ (by simp)
    refine (Below.heap_alloc _ _ _ (by simpa using hT2)).trans ?_
    exact (Below.heap_setCell _ ⟨_, _, none⟩ _ _ (by simp; omega)).trans ((Below.heap_setCell _ ⟨_, _, none⟩ _ _ (by simp; omega)).trans (Below.heap_setCell _ ⟨_, _, none⟩ _ _ (by simp; omega)))
  · exact IsFrags.none h0 hF.len_eq

/-- 'add', on a chunk that lies above the draft. -/
theorem add_at (base d T0 : Nat) (n : Nat) (text : List UInt8) (fin : ByteArray) (us : Option (Int × Int)) (fs : List Frag) (tag : Nat → Option Nat) (p v iv : Value) (up : Option Addr) (m : Option Nat) (blk : Nat → Nat) (w W : World)
    (D : DraftAt base w d text fin us fs tag p v iv up m blk) (content finish : ByteArray) (ta : Option Addr) (tl tc : Nat) (news : List Frag) (hbel : Below w.heap.size w W) (hcho : ChoiceAt W (w.heap.size + 1) n content finish ta tl tc)
    (use : Option (Int × Int)) (cu : Option Addr) (hU : ChunkUse W tag use cu) (hF : IsFrags W ta tl news T0) (hT : w.heap.size + 1 < T0) (htl : tl ≤ 65536) (hsz : text.length + content.size ≤ 1099511627776)
    (hnf : ∀ j, (firsts (fs ++ news.take j)).length ≤ 1099511627776) (hbd : ∀ j f, news[j]? = some f → (catOf f.k (fs ++ news.take j)).length + f.ar.size ≤ 1099511627776) :
    Calls Try.prog 13 #[.pointer (some ⟨d, 0, none⟩), .agg #[.slice (some ⟨w.heap.size + 1, 0, none⟩) (n + 1) (n + 1), .pointer cu, .pointer none]] W fun e w' => AddEnd base d (text ++ content.data.toList) (set1 finish fin) (use.or us) (fs ++ news) tag w e w' := by
  obtain ⟨cur, hb, _, c0, c1, c2⟩ := hcho
  refine (add_any base d (w.heap.size + 1) T0 n text fin us fs tag p v iv up m blk W (D.below hbel) content finish ta tl tc news ((cell_of_row W _ 0 _ _ _ hb).trans c0) ((cell_of_row W _ 1 _ _ _ hb).trans c1) ((cell_of_row W _ 2 _ _ _ hb).trans c2) use cu hU hF (D.sup T0 (by omega)) htl hsz hnf hbd).mono ?_
  rintro e w' ⟨he, t', p', v', iv', up', m', blk', D', S'⟩
  exact ⟨he, t', p', v', iv', up', m', blk', D', (Step.of_below hbel).trans S'⟩

theorem boxed_world {w Z : World} {n : Nat} {content finish : ByteArray} {ta : Option Addr} {tl tc : Nat} (h : ChunkAt w Z n content finish ta tl tc) (pr co : Int) {tag : Nat → Option Nat} (hsup : ∀ j, w.heap.size ≤ j → tag j = none) (q : Value) {a : Option Addr} {len T0 : Nat} {news : List Frag} (hF : IsFrags Z a len news T0) (hT : w.heap.size + 1 < T0) (hT2 : T0 < Z.heap.size ∨ len = 0) :
    Below w.heap.size w ((Z.setCell ⟨w.heap.size, 1, none⟩ q).alloc (.cells #[.int .i64 pr, .int .i64 co] 54)) ∧ ChoiceAt ((Z.setCell ⟨w.heap.size, 1, none⟩ q).alloc (.cells #[.int .i64 pr, .int .i64 co] 54)) (w.heap.size + 1) n content finish ta tl tc ∧
      ChunkUse ((Z.setCell ⟨w.heap.size, 1, none⟩ q).alloc (.cells #[.int .i64 pr, .int .i64 co] 54)) tag (some (pr, co)) (some ⟨Z.heap.size, 0, none⟩) ∧ IsFrags ((Z.setCell ⟨w.heap.size, 1, none⟩ q).alloc (.cells #[.int .i64 pr, .int .i64 co] 54)) a len news T0 := by
  have hlt := h.lt
  have hz : (Z.setCell ⟨w.heap.size, 1, none⟩ q).heap.size = Z.heap.size := by simp
  refine ⟨(h.bel.setCell (Nat.le_refl _) _).alloc (by omega) _, h.cho.same ((Below.heap_alloc _ _ _ (by omega)).trans (Below.heap_setCell _ ⟨_, _, none⟩ _ _ (by simp))), .inr ⟨Z.heap.size, pr, co, rfl, rfl, hsup _ (by omega), by rw [← hz]; exact heap_alloc_new _ _⟩, ?_⟩
  rcases hT2 with hT2 | h0
  · exact hF.same ((Below.heap_alloc _ _ _ (by omega)).trans (Below.heap_setCell _ ⟨_, _, none⟩ _ _ (by simp; omega))) (Nat.le_trans (Nat.le_of_eq hz.symm) (size_alloc_le _ _))
  · exact IsFrags.none h0 hF.len_eq

theorem index_run3 {P : Program} {t e : TypeId} (hu : P.underlying t = some (.slice e)) (hsz : ∀ w, (sizeOf e).run P w = .ok 3 w) {a : Option Addr} {b len : Nat} (ha : a = some ⟨b, 0, none⟩) (cap k : Nat) (hk : 1 + k < len) (w : World) :
    (Instr.indexAt t (.slice a len cap) (.int .i64 (1 + (k : Int)))).run P w = .ok (.pointer (some ⟨b, (1 + k) * 3, none⟩)) w := by
  subst ha
  have h1 : P.elem t = e := by simp [Program.elem, hu]
  rw [run_indexAt_slice _ _ _ _ _ _ _ (by rw [h1]; exact hu), if_pos ⟨by omega, by omega⟩, h1, hsz]
  have : (1 + (k : Int)).toNat = 1 + k := by omega
  simp [Result.andThen, Addr.add, this]
  omega

theorem calls_world {w Z Z2 : World} {n tl : Nat} {content finish : ByteArray} {news : List Frag} (hZ : ChunkAt w Z n content finish none 0 0) (hb2 : Below Z.heap.size Z Z2) {z : Array Value} (hown : Z2.ownsRow Z.heap.size 52 5 (.slice (some ⟨Z.heap.size, 0, none⟩) tl tl) tl (madeCells z (tl * 5)).toList) :
    (∃ T, w.heap.size + 1 < T ∧ T = Z.heap.size ∧ ChunkAt w (Z2.setCell ⟨w.heap.size + 1, 1, none⟩ (.slice (some ⟨Z.heap.size, 0, none⟩) tl tl)) n content finish (some ⟨T, 0, none⟩) tl tl ∧ RowTo (Z2.setCell ⟨w.heap.size + 1, 1, none⟩ (.slice (some ⟨Z.heap.size, 0, none⟩) tl tl)) T tl 0 news) := by
  have hlt := hZ.lt
  refine ⟨Z.heap.size, hlt, rfl, ?_, ?_⟩
  · obtain ⟨cur, hb, hs, c0, c1, c2⟩ := hZ.cho
    have hb' : Z2.heap[w.heap.size + 1]? = some (.cells cur 48 (0, 0)) := (hb2.block _ hlt).trans hb
    refine ⟨(hZ.bel.trans (hb2.mono hZ.bel.size)).setCell (Nat.le_succ _) _, ?_, ⟨_, heap_setCell_same Z2 _ 1 _ _ _ hb', by simpa using hs, ?_, ?_, ?_⟩, ?_⟩
    · exact (Below.heap_setCell _ ⟨w.heap.size + 1, 1, none⟩ _ _ (by simp)).trans ((hb2.block _ (by omega)).trans hZ.blk)
    · rw [Array.getElem?_setIfInBounds_ne (by omega)]; exact c0
    · rw [Array.getElem?_setIfInBounds_self_of_lt (by omega)]
    · rw [Array.getElem?_setIfInBounds_ne (by omega)]; exact c2
    · have := hb2.size; simp; omega
  · have hr := row_block hown
    exact ⟨_, (Below.heap_setCell _ ⟨w.heap.size + 1, 1, none⟩ _ _ (by simp; omega)).trans hr, by simp [size_madeCells], fun j f hj => absurd hj (by omega)⟩

set_option maxHeartbeats 4000000 in
set_option maxRecDepth 100000 in
theorem zzadd_yes (base d : Nat) (text : List UInt8) (fin : ByteArray) (us : Option (Int × Int)) (fs : List Frag) (tag : Nat → Option Nat) (p v iv : Value) (up : Option Addr) (m : Option Nat) (blk : Nat → Nat) (w : World)
    (D : DraftAt base w d text fin us fs tag p v iv up m blk) (content finish : ByteArray) (a4 a5 a6 a7 a8 a9 : Option Addr) (tl n c4 c5 c6 c7 c8 c9 : Nat) (zs : List Int) (s5 s6 s7 s8 s9 : List ByteArray) (news : List Frag) (hu : Bool) (pr co : Int)
    (h4 : IsInts .i64 w a4 tl zs) (h5 : IsStrs w a5 tl s5) (h6 : IsStrs w a6 tl s6) (h7 : IsStrs w a7 tl s7) (h8 : IsStrs w a8 tl s8) (h9 : IsStrs w a9 n s9) (htl : tl ≤ 65536) (hn : n ≤ 65536)
    (hlen : news.length = tl) (hnews : ∀ j, j < tl → news[j]? = some ⟨zs.getD j 0, s5.getD j ByteArray.empty, s6.getD j ByteArray.empty, s7.getD j ByteArray.empty, s8.getD j ByteArray.empty⟩)
    (hsz : text.length + content.size ≤ 1099511627776) (hnf : ∀ j, (firsts (fs ++ news.take j)).length ≤ 1099511627776) (hbd : ∀ j f, news[j]? = some f → (catOf f.k (fs ++ news.take j)).length + f.ar.size ≤ 1099511627776) :
    Calls Try.prog 10 #[.pointer (some ⟨d, 0, none⟩), .bool true, .string content, .string finish, .slice a4 tl c4, .slice a5 tl c5, .slice a6 tl c6, .slice a7 tl c7, .slice a8 tl c8, .slice a9 n c9, .bool hu, .int .i64 pr, .int .i64 co] w fun e w' =>
      AddEnd base d (text ++ content.data.toList) (set1 finish fin) ((useOf hu pr co).or us) (fs ++ news) tag w e w' := by
  obtain ⟨i48, j48, z48, y48, x48⟩ := info_parts Try.info48
  have hdlt := lt_block D.d0
  go_enter Try.func10, Try.ntmps10
  go_wp2_with (at_make; refine wpList_make_full _ rfl _ _ 41 rfl (w.heap.size + 1) 48 i48 _ 3 Try.underlying41 j48 z48 y48 _ _ _ _ (n + 1) rfl rfl (by omega) (by omega) (by rw [x48]; omega) (by unfold maxLen; omega) (by simp) ?_; intro wa hown hgrow; obtain ⟨hbw, kb, kc⟩ := made_choices rfl hown hgrow; clear hown hgrow; have k0 : wa.cell? ⟨w.heap.size, 0, none⟩ = some (.slice none 0 0) := (cell_of_row wa _ 0 _ _ _ kb).trans rfl; have k1 : wa.frozen? ⟨w.heap.size, 0, none⟩ = false := frozen_of_row wa _ 0 _ _ kb; have k2 : wa.cell? ⟨w.heap.size + 1, 0, none⟩ = some (.string ⟨#[]⟩) := (cell_of_row wa _ 0 _ _ _ kc).trans (made_at (by omega)); have k3 : wa.frozen? ⟨w.heap.size + 1, 0, none⟩ = false := frozen_of_row wa _ 0 _ _ kc; have k4 : wa.cell? ⟨w.heap.size + 1, 2, none⟩ = some (.string ⟨#[]⟩) := (cell_of_row wa _ 2 _ _ _ kc).trans (made_at (by omega)); have k5 : wa.frozen? ⟨w.heap.size + 1, 2, none⟩ = false := frozen_of_row wa _ 2 _ _ kc)
  all_goals refine abs_world (fun Z => ChunkAt w Z n content finish none 0 0) (start_world content finish hbw kb kc) ?_
  all_goals clear hbw kb kc k0 k1 k2 k3 k4 k5
  · rintro Z hZ
    have htl0 : 0 < tl := by assumption
    obtain ⟨i52, j52, z52, y52, x52⟩ := info_parts Try.info52
    obtain ⟨Z2, hrun, hown2, hgr2⟩ := run_make_full (P := Try.prog) Z.drew Z.heap.size 46 52 i52 _ 5 Try.underlying46 j52 z52 y52 .i64 .i64 tl (by rw [x52]; omega) (by unfold maxLen; omega) (Nat.le_refl _)
    have m0 : Z.cell? ⟨w.heap.size, 0, none⟩ = some (.slice (some ⟨w.heap.size + 1, 0, none⟩) (n + 1) (n + 1)) := (cell_of_row Z _ 0 _ _ _ hZ.blk).trans rfl
    have hb2 : Below Z.heap.size Z Z2 := ⟨hgr2.os, hgr2.tape, hgr2.output, hgr2.size, fun k hk => hgr2.block k hk (by simp)⟩
    have m1 : Z2.cell? ⟨w.heap.size, 0, none⟩ = some (.slice (some ⟨w.heap.size + 1, 0, none⟩) (n + 1) (n + 1)) := (hb2.cell (by have := hZ.lt; simp; omega)).trans m0
    have q1 := hZ.cho.cell 1 (by omega)
    obtain ⟨⟨q2, q3⟩, q4⟩ := q1
    have m2 : Z2.cell? ⟨w.heap.size + 1, 1, none⟩ = some q2 := (hb2.cell (by have := hZ.lt; simp; omega)).trans q3
    have m3 : Z2.frozen? ⟨w.heap.size + 1, 1, none⟩ = false := (hb2.frozen (by have := hZ.lt; simp; omega)).trans q4
    go_region
    go_wp2
    refine abs_world (fun Y => ∃ T, w.heap.size + 1 < T ∧ T = Z.heap.size ∧ ChunkAt w Y n content finish (some ⟨T, 0, none⟩) tl tl ∧ RowTo Y T tl 0 news) (calls_world hZ hb2 hown2) ?_
    rintro Y ⟨T, hT, rfl, hY, hR⟩
    clear hZ hb2 hown2 hgr2 m0 m1 m2 m3 q3 q4 hrun
    have HH : Hid (IsInts .i64 w a4 tl zs ∧ IsStrs w a5 tl s5 ∧ IsStrs w a6 tl s6 ∧ IsStrs w a7 tl s7 ∧ IsStrs w a8 tl s8) := ⟨h4, h5, h6, h7, h8⟩
    obtain ⟨b4, o4, e4, l4, d4⟩ := h4.at_ htl0
    obtain ⟨b5, o5, e5, l5, d5⟩ := h5.at_ htl0
    obtain ⟨b6, o6, e6, l6, d6⟩ := h6.at_ htl0
    obtain ⟨b7, o7, e7, l7, d7⟩ := h7.at_ htl0
    obtain ⟨b8, o8, e8, l8, d8⟩ := h8.at_ htl0
    go_loopw [27, 28] (fun i _ wr => ∃ k : Nat, k ≤ tl ∧ i = .int .i64 k ∧ ChunkAt w wr n content finish (some ⟨Z.heap.size, 0, none⟩) tl tl ∧ RowTo wr Z.heap.size tl k news) (fun i _ _ => tl - (intOf i).toNat)
    case atStart => exact ⟨0, Nat.zero_le _, rfl, hY, hR⟩
    case round =>
      obtain ⟨k, hk, rfl, hC, hW⟩ := hrel
      clear hY hR
      by_cases hlt : k < tl
      · have hn5 := hnews k hlt
        obtain ⟨fk, hfk⟩ : ∃ x, x = zs.getD k 0 := ⟨_, rfl⟩
        obtain ⟨fi, hfi⟩ : ∃ x, x = s5.getD k ByteArray.empty := ⟨_, rfl⟩
        obtain ⟨ft, hft⟩ : ∃ x, x = s6.getD k ByteArray.empty := ⟨_, rfl⟩
        obtain ⟨fn, hfn⟩ : ∃ x, x = s7.getD k ByteArray.empty := ⟨_, rfl⟩
        obtain ⟨fa, hfa⟩ : ∃ x, x = s8.getD k ByteArray.empty := ⟨_, rfl⟩
        rw [← hfk, ← hfi, ← hft, ← hfn, ← hfa] at hn5
        have i4 := fun W => index_run (P := Try.prog) Try.underlying22 size3 e4 c4 k hlt W
        have i5 := fun W => index_run (P := Try.prog) Try.underlying23 size9 e5 c5 k hlt W
        have i6 := fun W => index_run (P := Try.prog) Try.underlying23 size9 e6 c6 k hlt W
        have i7 := fun W => index_run (P := Try.prog) Try.underlying23 size9 e7 c7 k hlt W
        have i8 := fun W => index_run (P := Try.prog) Try.underlying23 size9 e8 c8 k hlt W
        have v4 : wr.cell? ⟨b4, o4 + k, none⟩ = some (.int .i64 fk) := by rw [hfk]; exact (hC.bel.cell l4).trans (d4 k hlt)
        have v5 : wr.cell? ⟨b5, o5 + k, none⟩ = some (.string fi) := by rw [hfi]; exact (hC.bel.cell l5).trans (d5 k hlt)
        have v6 : wr.cell? ⟨b6, o6 + k, none⟩ = some (.string ft) := by rw [hft]; exact (hC.bel.cell l6).trans (d6 k hlt)
        have v7 : wr.cell? ⟨b7, o7 + k, none⟩ = some (.string fn) := by rw [hfn]; exact (hC.bel.cell l7).trans (d7 k hlt)
        have v8 : wr.cell? ⟨b8, o8 + k, none⟩ = some (.string fa) := by rw [hfa]; exact (hC.bel.cell l8).trans (d8 k hlt)
        have g4 : b4 ≠ Z.heap.size := by omega
        have g5 : b5 ≠ Z.heap.size := by omega
        have g6 : b6 ≠ Z.heap.size := by omega
        have g7 : b7 ≠ Z.heap.size := by omega
        have g8 : b8 ≠ Z.heap.size := by omega
        have hix : ∀ W, (Instr.indexAt 46 (.slice (some ⟨Z.heap.size, 0, none⟩) tl tl) (.int .i64 (k : Int))).run Try.prog W = .ok (.pointer (some ⟨Z.heap.size, k * 5, none⟩)) W := fun W => index_run5 Try.underlying46 (fun _ => by kernel_rfl) rfl tl k hlt W
        obtain ⟨⟨u0, x0⟩, y0⟩ := hW.at_ (k * 5) (by omega)
        obtain ⟨⟨u1, x1⟩, y1⟩ := hW.at_ (k * 5 + 1) (by omega)
        obtain ⟨⟨u2, x2⟩, y2⟩ := hW.at_ (k * 5 + 2) (by omega)
        obtain ⟨⟨u3, x3⟩, y3⟩ := hW.at_ (k * 5 + 3) (by omega)
        obtain ⟨⟨u4, x4⟩, y4⟩ := hW.at_ (k * 5 + 4) (by omega)
        have r0 : wr.cell? ⟨w.heap.size, 0, none⟩ = some (.slice (some ⟨w.heap.size + 1, 0, none⟩) (n + 1) (n + 1)) := (cell_of_row wr _ 0 _ _ _ hC.blk).trans rfl
        have r1 : wr.cell? ⟨w.heap.size + 1, 1, none⟩ = some (.slice (some ⟨Z.heap.size, 0, none⟩) tl tl) := by obtain ⟨cur, hb, _, _, c1, _⟩ := hC.cho; exact (cell_of_row wr _ 1 _ _ _ hb).trans c1
        clear hnews l4 l5 l6 l7 l8 d4 d5 d6 d7 d8 hfk hfi hft hfn hfa
        go_wp2
        go_roundw
        case rel => exact ⟨k + 1, by omega, by go_num, hC.rows (Nat.lt_of_succ_lt hT) hT _ _ _ _ _, hW.step (f := ⟨fk, fi, ft, fn, fa⟩) hlt hn5⟩
        case measure => simp [intOf]; omega
      · obtain rfl : k = tl := by omega
        go_wp2
        refine abs_world (fun Y => ∃ T, w.heap.size + 1 < T ∧ T = Z.heap.size ∧ ChunkAt w Y n content finish (some ⟨T, 0, none⟩) k k ∧ IsFrags Y (some ⟨T, 0, none⟩) k news T) ⟨_, hT, rfl, hC, hW.frags hlen⟩ ?_
        clear hC hW hT
        rintro Y ⟨T, hT, rfl, hY, hF⟩
        go_loopw [29, 30] (fun i _ wr => ∃ q : Nat, q ≤ n ∧ i = .int .i64 q ∧ ChunkAt w wr n content finish (some ⟨Z.heap.size, 0, none⟩) k k ∧ IsFrags wr (some ⟨Z.heap.size, 0, none⟩) k news Z.heap.size ∧ (Z.heap.size < wr.heap.size ∨ k = 0)) (fun i _ _ => n - (intOf i).toNat)
        case atStart => exact ⟨0, Nat.zero_le _, rfl, hY, hF, (.inl (hF.lt htl0))⟩
        case round =>
          obtain ⟨q, hq, rfl, hC, hG, hTz⟩ := hrel
          clear hY hF
          by_cases hlt : q < n
          · obtain ⟨b9, o9, e9, l9, d9⟩ := h9.at_ (by omega)
            have i9 := fun W => index_run (P := Try.prog) Try.underlying23 size9 e9 c9 q hlt W
            obtain ⟨fa, hfa⟩ : ∃ x, x = s9.getD q ByteArray.empty := ⟨_, rfl⟩
            have v9 : wr.cell? ⟨b9, o9 + q, none⟩ = some (.string fa) := by rw [hfa]; exact (hC.bel.cell l9).trans (d9 q hlt)
            have g9 : b9 ≠ w.heap.size + 1 := by omega
            have g9' : b9 ≠ w.heap.size := by omega
            have hix : ∀ W, (Instr.indexAt 41 (.slice (some ⟨w.heap.size + 1, 0, none⟩) (n + 1) (n + 1)) (.int .i64 (1 + (q : Int)))).run Try.prog W = .ok (.pointer (some ⟨w.heap.size + 1, (1 + q) * 3, none⟩)) W := fun W => index_run3 Try.underlying41 (fun _ => by kernel_rfl) rfl (n + 1) q (by omega) W
            have r0 : wr.cell? ⟨w.heap.size, 0, none⟩ = some (.slice (some ⟨w.heap.size + 1, 0, none⟩) (n + 1) (n + 1)) := (cell_of_row wr _ 0 _ _ _ hC.blk).trans rfl
            obtain ⟨⟨u0, x0⟩, y0⟩ := hC.cho.cell ((1 + q) * 3) (by omega)
            obtain ⟨⟨u1, x1⟩, y1⟩ := hC.cho.cell ((1 + q) * 3 + 1) (by omega)
            obtain ⟨⟨u2, x2⟩, y2⟩ := hC.cho.cell ((1 + q) * 3 + 2) (by omega)
            have hl2 := hC.lt
            have HZ := hideC hTz
            clear l9 d9 hfa hTz
            go_wp2
            go_roundw
            case rel =>
              have hmm := hC.more (i0 := (1 + q) * 3) (i1 := (1 + q) * 3 + 2) (i2 := (1 + q) * 3 + 1) (by omega) (by omega) (by omega) (.string fa) (.string fa) (.slice (some ⟨wr.heap.size, 0, none⟩) 1 1) (.cells #[.int .i64 0, .string fa, .string ⟨#[]⟩, .string ⟨#[]⟩, .string ⟨#[]⟩] 52) hG hT HZ.out
              exact ⟨q + 1, by omega, by go_num, hmm.1, hmm.2, HZ.out.imp_left (fun h => Nat.lt_of_lt_of_le h (by simp))⟩
            case measure => simp [intOf]; omega
          · obtain rfl : q = n := by omega
            have r0 : wr.cell? ⟨w.heap.size, 0, none⟩ = some (.slice (some ⟨w.heap.size + 1, 0, none⟩) (q + 1) (q + 1)) := (cell_of_row wr _ 0 _ _ _ hC.blk).trans rfl
            have r1 : wr.cell? ⟨w.heap.size, 1, none⟩ = some (.pointer none) := (cell_of_row wr _ 1 _ _ _ hC.blk).trans rfl
            have r2 : wr.cell? ⟨w.heap.size, 2, none⟩ = some (.pointer none) := (cell_of_row wr _ 2 _ _ _ hC.blk).trans rfl
            have f1 : wr.frozen? ⟨w.heap.size, 1, none⟩ = false := frozen_of_row wr _ 1 _ _ hC.blk
            have hl2 : w.heap.size < wr.heap.size := by have := hC.lt; omega
            have HZ := hideC hTz
            clear hTz
            cases hu with
            | true =>
              go_wp2_with fail
              obtain ⟨B1, B2, B3, B4⟩ := boxed_world hC pr co D.sup (.pointer (some ⟨wr.heap.size, 0, none⟩)) hG hT HZ.out
              refine (add_at base d Z.heap.size q text fin us fs tag p v iv up m blk w _ D content finish (some ⟨Z.heap.size, 0, none⟩) k k news B1 B2 (some (pr, co)) _ B3 B4 hT htl hsz hnf hbd).mono ?_
              rintro e w9 ⟨rfl, hend⟩
              go_wp2_with fail
              go_end0
              exact ⟨rfl, hend⟩
            | false =>
              go_wp2_with fail
              refine (add_at base d Z.heap.size q text fin us fs tag p v iv up m blk w wr D content finish (some ⟨Z.heap.size, 0, none⟩) k k news hC.bel hC.cho none none (.inl ⟨rfl, rfl⟩) hG hT htl hsz hnf hbd).mono ?_
              rintro e w9 ⟨rfl, hend⟩
              go_wp2_with fail
              go_end0
              exact ⟨rfl, hend⟩
  · rintro Y hY
    obtain rfl : tl = 0 := by omega
    have hT : w.heap.size + 1 < w.heap.size + 2 := by omega
    have hF : IsFrags Y none 0 news (w.heap.size + 2) := IsFrags.none rfl hlen
    go_loopw [29, 30] (fun i _ wr => ∃ q : Nat, q ≤ n ∧ i = .int .i64 q ∧ ChunkAt w wr n content finish none 0 0 ∧ IsFrags wr none 0 news (w.heap.size + 2)) (fun i _ _ => n - (intOf i).toNat)
    case atStart => exact ⟨0, Nat.zero_le _, rfl, hY, hF⟩
    case round =>
      obtain ⟨q, hq, rfl, hC, hG⟩ := hrel
      clear hY hF
      by_cases hlt : q < n
      · obtain ⟨b9, o9, e9, l9, d9⟩ := h9.at_ (by omega)
        have i9 := fun W => index_run (P := Try.prog) Try.underlying23 size9 e9 c9 q hlt W
        obtain ⟨fa, hfa⟩ : ∃ x, x = s9.getD q ByteArray.empty := ⟨_, rfl⟩
        have v9 : wr.cell? ⟨b9, o9 + q, none⟩ = some (.string fa) := by rw [hfa]; exact (hC.bel.cell l9).trans (d9 q hlt)
        have g9 : b9 ≠ w.heap.size + 1 := by omega
        have g9' : b9 ≠ w.heap.size := by omega
        have hix : ∀ W, (Instr.indexAt 41 (.slice (some ⟨w.heap.size + 1, 0, none⟩) (n + 1) (n + 1)) (.int .i64 (1 + (q : Int)))).run Try.prog W = .ok (.pointer (some ⟨w.heap.size + 1, (1 + q) * 3, none⟩)) W := fun W => index_run3 Try.underlying41 (fun _ => by kernel_rfl) rfl (n + 1) q (by omega) W
        have r0 : wr.cell? ⟨w.heap.size, 0, none⟩ = some (.slice (some ⟨w.heap.size + 1, 0, none⟩) (n + 1) (n + 1)) := (cell_of_row wr _ 0 _ _ _ hC.blk).trans rfl
        obtain ⟨⟨u0, x0⟩, y0⟩ := hC.cho.cell ((1 + q) * 3) (by omega)
        obtain ⟨⟨u1, x1⟩, y1⟩ := hC.cho.cell ((1 + q) * 3 + 1) (by omega)
        obtain ⟨⟨u2, x2⟩, y2⟩ := hC.cho.cell ((1 + q) * 3 + 2) (by omega)
        have hl2 := hC.lt
        clear l9 d9 hfa
        go_wp2
        go_roundw
        case rel =>
          have hmm := hC.more (i0 := (1 + q) * 3) (i1 := (1 + q) * 3 + 2) (i2 := (1 + q) * 3 + 1) (by omega) (by omega) (by omega) (.string fa) (.string fa) (.slice (some ⟨wr.heap.size, 0, none⟩) 1 1) (.cells #[.int .i64 0, .string fa, .string ⟨#[]⟩, .string ⟨#[]⟩, .string ⟨#[]⟩] 52) hG hT (.inr rfl)
          exact ⟨q + 1, by omega, by go_num, hmm.1, hmm.2⟩
        case measure => simp [intOf]; omega
      · obtain rfl : q = n := by omega
        have r0 : wr.cell? ⟨w.heap.size, 0, none⟩ = some (.slice (some ⟨w.heap.size + 1, 0, none⟩) (q + 1) (q + 1)) := (cell_of_row wr _ 0 _ _ _ hC.blk).trans rfl
        have r1 : wr.cell? ⟨w.heap.size, 1, none⟩ = some (.pointer none) := (cell_of_row wr _ 1 _ _ _ hC.blk).trans rfl
        have r2 : wr.cell? ⟨w.heap.size, 2, none⟩ = some (.pointer none) := (cell_of_row wr _ 2 _ _ _ hC.blk).trans rfl
        have f1 : wr.frozen? ⟨w.heap.size, 1, none⟩ = false := frozen_of_row wr _ 1 _ _ hC.blk
        have hl2 : w.heap.size < wr.heap.size := by have := hC.lt; omega
        cases hu with
        | true =>
          go_wp2_with fail
          obtain ⟨B1, B2, B3, B4⟩ := boxed_world hC pr co D.sup (.pointer (some ⟨wr.heap.size, 0, none⟩)) hG hT (.inr rfl)
          refine (add_at base d (w.heap.size + 2) q text fin us fs tag p v iv up m blk w _ D content finish none 0 0 news B1 B2 (some (pr, co)) _ B3 B4 hT htl hsz hnf hbd).mono ?_
          rintro e w9 ⟨rfl, hend⟩
          go_wp2_with fail
          go_end0
          exact ⟨rfl, hend⟩
        | false =>
          go_wp2_with fail
          refine (add_at base d (w.heap.size + 2) q text fin us fs tag p v iv up m blk w wr D content finish none 0 0 news hC.bel hC.cho none none (.inl ⟨rfl, rfl⟩) hG hT htl hsz hnf hbd).mono ?_
          rintro e w9 ⟨rfl, hend⟩
          go_wp2_with fail
          go_end0
          exact ⟨rfl, hend⟩
end Go.Proofs.Qxb6605202a
