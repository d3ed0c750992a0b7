import Derived.Test.Qxb6605202aLook
import Derived.Deep.RegionWith
import Derived.Deep.RegionHeld3
import Derived.Deep.DrawnRows
import Derived.Deep.RegionLaw
import Derived.Deep.AppendLies
import Derived.Maps.AppendAt
namespace Go.Proofs.Qxb6605202a
open Go.RowKit

attribute [local go_sem ↓] Go.wp_at_zero Go.wp_at_succ

/-- The tool calls of a chunk lie in the row T0. -/
structure IsFrags (w : World) (a : Option Addr) (len : Nat) (news : List Frag) (T0 : Nat) : Prop where
  len_eq : news.length = len
  ad : 0 < len → a = some ⟨T0, 0, none⟩
  lt : 0 < len → T0 < w.heap.size
  at_ : ∀ j f, news[j]? = some f → w.cell? ⟨T0, j * 5, none⟩ = some (.int .i64 f.k) ∧ w.cell? ⟨T0, j * 5 + 1, none⟩ = some (.string f.id) ∧ w.cell? ⟨T0, j * 5 + 2, none⟩ = some (.string f.ty) ∧ w.cell? ⟨T0, j * 5 + 3, none⟩ = some (.string f.nm) ∧ w.cell? ⟨T0, j * 5 + 4, none⟩ = some (.string f.ar)

theorem IsFrags.below {w w' : World} {a : Option Addr} {len : Nat} {news : List Frag} {T0 : Nat} (h : IsFrags w a len news T0) (hb : Below w.heap.size w w') : IsFrags w' a len news T0 := by
  refine ⟨h.len_eq, h.ad, fun h0 => Nat.lt_of_lt_of_le (h.lt h0) hb.size, fun j f hj => ?_⟩
  have h0 : 0 < len := by rw [← h.len_eq]; have := (List.getElem?_eq_some_iff.1 hj).1; omega
  have e : ∀ o, w'.cell? ⟨T0, o, none⟩ = w.cell? ⟨T0, o, none⟩ := fun o => hb.cell (by exact h.lt h0)
  rw [e, e, e, e, e]
  exact h.at_ j f hj

theorem index_run5 {P : Program} {t e : TypeId} (hu : P.underlying t = some (.slice e)) (hsz : ∀ w, (sizeOf e).run P w = .ok 5 w) {a : Option Addr} {b len : Nat} (ha : a = some ⟨b, 0, none⟩) (cap k : Nat) (hk : k < len) (w : World) :
    (Instr.indexAt t (.slice a len cap) (.int .i64 (k : Int))).run P w = .ok (.pointer (some ⟨b, k * 5, none⟩)) w := by
  subst ha
  have h1 : P.elem t = e := by simp [Program.elem, hu]
  rw [run_indexAt_slice _ _ _ _ _ _ _ (by rw [h1]; exact hu), if_pos ⟨by omega, by omega⟩, h1, hsz]
  simp [Result.andThen, Addr.add]
  omega

/-- The world under a name, with what is known of it. -/
theorem abs_world {P : Program} {c : Code} {Q : Exit → Act → World → Prop} {a : Act} {W : World} (R : World → Prop) (hR : R W) (h : ∀ W', R W' → Code.wp P c Q a W') : Code.wp P c Q a W := h W hR

theorem Step.drew (tag : Nat → Option Nat) (w : World) : Step tag tag w w.drew := ⟨rfl, rfl, rfl, Nat.le_refl _, fun _ _ => rfl, fun _ _ _ => rfl⟩

theorem wr_text {w : World} {base : Nat} {v : Value} {l : List UInt8} {s : ByteArray} (h : w.ownsRowF base 5 1 v (l.length + s.size) (Lib.byteCells l ++ Lib.strCells s)) : w.ownsRowF base 5 1 v (l ++ s.data.toList).length (Lib.byteCells (l ++ s.data.toList)) := by
  rw [Lib.byteCells_append, List.length_append, ← Lib.size_eq]
  exact h

theorem cat_E (l : List UInt8) : l ++ E.data.toList = l := by simp [E]

theorem hideC {p : Prop} (h : p) : Hid p := h

theorem lies40 : liesAt Try.prog Try.prog.depth 40 (6 / Try.prog.cellsOf 40) 0 36 1 = true := by kernel_rfl
theorem lies75 : liesAt Try.prog Try.prog.depth 75 (6 / Try.prog.cellsOf 75) 4 36 1 = true := by kernel_rfl

theorem mkmap_world {base : Nat} {w0 wr : World} {d : Nat} {text : List UInt8} {fin : ByteArray} {us : Option (Int × Int)} {tag t' : Nat → Option Nat} {p v iv : Value} {up : Option Addr} {blk : Nat → Nat} (D : DraftAt base wr d text fin us [] t' p v iv up none blk) (S : Step tag t' w0 wr) (F : Obj) (hT : t' wr.heap.size = none) :
    ∃ t9 bm, DraftAt base (((wr.setCell ⟨d, 4, none⟩ (.map (some (wr.heap.size + 1)))).alloc F).alloc (.map #[] 0)) d text fin us [] t9 p v iv up (some bm) blk ∧ Step tag t9 w0 (((wr.setCell ⟨d, 4, none⟩ (.map (some (wr.heap.size + 1)))).alloc F).alloc (.map #[] 0)) ∧
      (((wr.setCell ⟨d, 4, none⟩ (.map (some (wr.heap.size + 1)))).alloc F).alloc (.map #[] 0)).heap[wr.heap.size]? = some F ∧ t9 wr.heap.size = none := by
  have hdlt := lt_block D.d0
  have s1 : (wr.setCell ⟨d, 4, none⟩ (.map (some (wr.heap.size + 1)))).heap.size = wr.heap.size := by simp
  have s2 : ((wr.setCell ⟨d, 4, none⟩ (.map (some (wr.heap.size + 1)))).alloc F).heap.size = wr.heap.size + 1 := by simp
  have e1 := heap_alloc_new (wr.setCell ⟨d, 4, none⟩ (.map (some (wr.heap.size + 1)))) F
  rw [s1] at e1
  have e2 := heap_alloc_new ((wr.setCell ⟨d, 4, none⟩ (.map (some (wr.heap.size + 1)))).alloc F) (.map #[] 0)
  rw [s2] at e2
  have old : ∀ j, j < wr.heap.size → (((wr.setCell ⟨d, 4, none⟩ (.map (some (wr.heap.size + 1)))).alloc F).alloc (.map #[] 0)).heap[j]? = (wr.setCell ⟨d, 4, none⟩ (.map (some (wr.heap.size + 1)))).heap[j]? := fun j hj =>
    (Below.heap_alloc _ _ _ (by omega)).trans (Below.heap_alloc _ _ _ (by omega))
  have hbF : Below wr.heap.size wr (wr.alloc F) := (Below.refl _ _).alloc (Nat.le_refl _) _
  have s3 : (wr.alloc F).heap.size = wr.heap.size + 1 := by simp
  obtain ⟨t9, D9, S9⟩ := (D.below hbF).mkmap (w' := ((wr.setCell ⟨d, 4, none⟩ (.map (some (wr.heap.size + 1)))).alloc F).alloc (.map #[] 0)) (bm := wr.heap.size + 1) ((old d hdlt).trans ((heap_setCell_same wr d 4 _ _ _ D.d0).trans rfl)) (by omega) e2
    ⟨rfl, rfl, rfl, by simp, fun j hj hjd _ => by
      by_cases hjs : j < wr.heap.size
      · exact (old j hjs).trans ((Below.heap_setCell wr ⟨d, 4, none⟩ _ j hjd).trans (Below.heap_alloc _ _ _ hjs).symm)
      · obtain rfl : j = wr.heap.size := by omega
        exact ((Below.heap_alloc _ _ _ (by omega)).trans e1).trans (heap_alloc_new wr F).symm⟩
  exact ⟨t9, _, D9, (S.trans (Step.of_below hbF)).trans S9, (Below.heap_alloc _ _ _ (by omega)).trans e1, (S9.same _ (by omega)).trans hT⟩

theorem new_world {base : Nat} {w0 W W12 W13 W14 Wa : World} {d : Nat} {text : List UInt8} {fin : ByteArray} {us : Option (Int × Int)} {X : List Frag} {tag t9 : Nat → Option Nat} {p v iv : Value} {up : Option Addr} {blk : Nat → Nat} {k : Int} {bm clock F g cap : Nat} {es : Array MapEntry} {Fo o : Obj}
    (D9 : DraftAt base W d text fin us X t9 p v iv up (some bm) blk) (S9 : Step tag t9 w0 W) (hF9 : W.heap[F]? = some Fo) (hT9 : t9 F = none) (hkey : k ∉ firsts X) (hmt : t9 bm = some 2) (hents : Ents es (firsts X) blk)
    (hmap13 : W13.heap[bm]? = some (.map (es.push { key := .int .i64 k, val := .pointer (some ⟨W.heap.size, 0, none⟩), born := clock }) (clock + 1))) (hb12 : Below W.heap.size W W12) (ho13 : W13.os = W12.os ∧ W13.tape = W12.tape ∧ W13.output = W12.output ∧ W12.heap.size ≤ W13.heap.size)
    (keep13 : ∀ j, j < W12.heap.size → j ≠ bm → W13.heap[j]? = W12.heap[j]?) (hd13 : W13.heap[d]? = some (.cells #[p, v, .string fin, .pointer up, .map (some bm), iv] 40 (0, 0))) (hC13 : W13.heap[W.heap.size]? = some (.cells #[.string E, .string E, .string E, .string E, .pointer none, .slice none 0 0] 75 (0, 0)))
    (hWa : Wa.heap = (W13.alloc o).heap ∧ Wa.os = W13.os ∧ Wa.tape = W13.tape ∧ Wa.output = W13.output)
    (hI14 : W14.ownsRow base 3 1 (.slice (some ⟨g, 0, none⟩) ((firsts X).length + 1) cap) ((firsts X).length + 1) ((firsts X).map (Value.int .i64) ++ [.int .i64 k])) (hgr14 : Wa.grownBy W14 iv.ownBlock) (hat : iv.ownBlock = some g ∨ g = W13.heap.size + 1) :
    ∃ t blk2 iv2 i2, DraftAt base (W14.setCell ⟨d, 5, none⟩ (.slice (some ⟨g, 0, none⟩) ((firsts X).length + 1) cap)) d text fin us (X ++ [⟨k, E, E, E, E⟩]) t p v iv2 up (some bm) blk2 ∧ Step tag t w0 (W14.setCell ⟨d, 5, none⟩ (.slice (some ⟨g, 0, none⟩) ((firsts X).length + 1) cap)) ∧
      (W14.setCell ⟨d, 5, none⟩ (.slice (some ⟨g, 0, none⟩) ((firsts X).length + 1) cap)).heap[F]? = some Fo ∧ t F = none ∧ (firsts (X ++ [⟨k, E, E, E, E⟩]))[i2]? = some k ∧ blk2 i2 = W.heap.size := by
  have sWa : Wa.heap.size = W13.heap.size + 1 := by rw [hWa.1]; simp
  have old14 : ∀ j, j < W13.heap.size → some j ≠ iv.ownBlock → W14.heap[j]? = W13.heap[j]? := fun j hj hne => (hgr14.block j (by omega) hne).trans (by rw [hWa.1]; exact Below.heap_alloc W13 o j hj)
  have hdI : some d ≠ iv.ownBlock := fun e => by have h1 := D9.idxT d e.symm; rw [D9.dt] at h1; cases h1
  have hbmI : some bm ≠ iv.ownBlock := fun e => by have h1 := D9.idxT bm e.symm; rw [hmt] at h1; cases h1
  have hCI : some W.heap.size ≠ iv.ownBlock := fun e => by have h1 := D9.idxT _ e.symm; rw [D9.sup _ (Nat.le_refl _)] at h1; cases h1
  have hbmd : bm ≠ d := fun e => by rw [e, D9.dt] at hmt; cases hmt
  have hdlt := lt_block D9.d0
  have hClt := lt_block hC13
  have hs13 : W.heap.size ≤ W13.heap.size := Nat.le_of_lt hClt
  have hd14 := (old14 d (by omega) hdI).trans hd13
  have hgd : g ≠ d := by
    rcases hat with h | h
    · intro e; exact hdI (by rw [h, e])
    · omega
  have hgC : g ≠ W.heap.size := by
    rcases hat with h | h
    · intro e; exact hCI (by rw [h, e])
    · omega
  have hs14 : W13.heap.size ≤ W14.heap.size := by have := hgr14.size; omega
  obtain ⟨t, D, S⟩ := D9.new (w' := W14.setCell ⟨d, 5, none⟩ (.slice (some ⟨g, 0, none⟩) ((firsts X).length + 1) cap)) (C := W.heap.size) (clock := clock) (es := es) (iv' := .slice (some ⟨g, 0, none⟩) ((firsts X).length + 1) cap) hkey rfl hmt hents
    ((heap_setCell_same W14 d 5 _ _ _ hd14).trans rfl) ((Below.heap_setCell W14 ⟨d, 5, none⟩ _ bm hbmd).trans ((old14 bm (lt_block hmap13) hbmI).trans hmap13)) (Nat.le_refl _)
    ((Below.heap_setCell W14 ⟨d, 5, none⟩ _ _ (by show W.heap.size ≠ d; omega)).trans ((old14 _ hClt hCI).trans hC13))
    (ownsRow_same hI14 (fun g' hg' => Below.heap_setCell W14 ⟨d, 5, none⟩ _ g' (by have e : g' = g := by simpa [Value.ownBlock] using hg'.symm
                                                                                   rw [e]; exact hgd)))
    (by
      rcases hat with h | h
      · exact .inl h.symm
      · exact .inr ⟨g, rfl, by omega⟩)
    (fun e => hgC (by simpa [Value.ownBlock] using e))
    (hgr14.os.trans (hWa.2.1.trans (ho13.1.trans hb12.os))) (hgr14.tape.trans (hWa.2.2.1.trans (ho13.2.1.trans hb12.tape))) (hgr14.output.trans (hWa.2.2.2.trans (ho13.2.2.1.trans hb12.output)))
    (by simp; omega)
    (fun j hj h1 h2 h3 => (Below.heap_setCell W14 ⟨d, 5, none⟩ _ j h1).trans ((old14 j (by omega) h3).trans ((keep13 j (Nat.lt_of_lt_of_le hj hb12.size) h2).trans (hb12.block j hj))))
  refine ⟨t, _, _, (firsts X).length, D, S9.trans S, (S.keep F (lt_block hF9) hT9).trans hF9, (S.same F (lt_block hF9)).trans hT9, ?_, if_pos rfl⟩
  have e1 : firsts (X ++ [⟨k, E, E, E, E⟩]) = firsts X ++ [k] := by rw [firsts_snoc, if_neg (by exact hkey)]
  rw [e1]
  simp

/-- The usage that a chunk carries, in a block that is no part of the draft. -/
def ChunkUse (w : World) (tag : Nat → Option Nat) (use : Option (Int × Int)) (cu : Option Addr) : Prop :=
  (use = none ∧ cu = none) ∨ ∃ U a c, use = some (a, c) ∧ cu = some ⟨U, 0, none⟩ ∧ tag U = none ∧ w.heap[U]? = some (.cells #[.int .i64 a, .int .i64 c] 54 (0, 0))

def AddEnd (base d : Nat) (text : List UInt8) (fin : ByteArray) (us : Option (Int × Int)) (fs : List Frag) (tag : Nat → Option Nat) (w : World) (e : Ending) (w' : World) : Prop :=
  e = .returned (.tuple #[]) ∧ ∃ tag' p v iv up m blk, DraftAt base w' d text fin us fs tag' p v iv up m blk ∧ Step tag tag' w w'

theorem set1_yes {a b : ByteArray} (h : a.toList.isEmpty = true) : set1 a b = b := by simp [set1, h]
theorem set1_no {a b : ByteArray} (h : a.toList.isEmpty = false) : set1 a b = a := by simp [set1, h]

/-- The finish reason is stored. -/
theorem fin_world {base : Nat} {w : World} {d : Nat} {text : List UInt8} {fin fin' : ByteArray} {us : Option (Int × Int)} {fs : List Frag} {tag : Nat → Option Nat} {p v iv : Value} {up : Option Addr} {m : Option Nat} {blk : Nat → Nat} (D : DraftAt base w d text fin us fs tag p v iv up m blk) :
    DraftAt base (w.setCell ⟨d, 2, none⟩ (.string fin')) d text fin' us fs tag p v iv up m blk ∧ Step tag tag w (w.setCell ⟨d, 2, none⟩ (.string fin')) :=
  D.fin_ ((heap_setCell_same w d 2 _ _ _ D.d0).trans rfl) (Fr.setCell w d 2 _ none)

/-- The usage is boxed and stored. -/
theorem use_world {base : Nat} {w : World} {d : Nat} {text : List UInt8} {fin : ByteArray} {us : Option (Int × Int)} {fs : List Frag} {tag : Nat → Option Nat} {p v iv : Value} {up : Option Addr} {m : Option Nat} {blk : Nat → Nat} (D : DraftAt base w d text fin us fs tag p v iv up m blk) (a c : Int) :
    ∃ tag', DraftAt base ((w.setCell ⟨d, 3, none⟩ (.pointer (some ⟨w.heap.size, 0, none⟩))).alloc (.cells #[.int .i64 a, .int .i64 c] 79)).drew d text fin (some (a, c)) fs tag' p v iv (some ⟨w.heap.size, 0, none⟩) m blk ∧
      Step tag tag' w ((w.setCell ⟨d, 3, none⟩ (.pointer (some ⟨w.heap.size, 0, none⟩))).alloc (.cells #[.int .i64 a, .int .i64 c] 79)).drew := by
  have hdlt := lt_block D.d0
  have s1 : (w.setCell ⟨d, 3, none⟩ (.pointer (some ⟨w.heap.size, 0, none⟩))).heap.size = w.heap.size := by simp
  have e1 := heap_alloc_new (w.setCell ⟨d, 3, none⟩ (.pointer (some ⟨w.heap.size, 0, none⟩))) (.cells #[.int .i64 a, .int .i64 c] 79)
  rw [s1] at e1
  have old : ∀ j, j < w.heap.size → ((w.setCell ⟨d, 3, none⟩ (.pointer (some ⟨w.heap.size, 0, none⟩))).alloc (.cells #[.int .i64 a, .int .i64 c] 79)).heap[j]? = (w.setCell ⟨d, 3, none⟩ (.pointer (some ⟨w.heap.size, 0, none⟩))).heap[j]? := fun j hj => Below.heap_alloc _ _ _ (by omega)
  exact D.usage (w' := ((w.setCell ⟨d, 3, none⟩ (.pointer (some ⟨w.heap.size, 0, none⟩))).alloc (.cells #[.int .i64 a, .int .i64 c] 79)).drew) (bu := w.heap.size) ((old d hdlt).trans ((heap_setCell_same w d 3 _ _ _ D.d0).trans rfl)) (Nat.le_refl _) e1
    ⟨rfl, rfl, rfl, by simp, fun j hj hjd _ => (old j hj).trans (Below.heap_setCell w ⟨d, 3, none⟩ _ j hjd)⟩

set_option maxHeartbeats 8000000 in
set_option maxRecDepth 100000 in
theorem add_any (base d C0 T0 : Nat) (n : Nat) (text : List UInt8) (fin : ByteArray) (us : Option (Int × Int)) (fs : List Frag) (tag : Nat → Option Nat) (p v iv : Value) (up : Option Addr) (m : Option Nat) (blk : Nat → Nat) (w : World)
    (D : DraftAt base w d text fin us fs tag p v iv up m blk) (content finish : ByteArray) (ta : Option Addr) (tl tc : Nat) (news : List Frag)
    (hC0 : w.cell? ⟨C0, 0, none⟩ = some (.string content)) (hC1 : w.cell? ⟨C0, 1, none⟩ = some (.slice ta tl tc)) (hC2 : w.cell? ⟨C0, 2, none⟩ = some (.string finish))
    (use : Option (Int × Int)) (cu : Option Addr) (hU : ChunkUse w tag use cu) (hF : IsFrags w ta tl news T0) (hTt : tag T0 = none) (htl : tl ≤ 65536) (hsz : text.length + content.size ≤ 1099511627776)
    (hnf : ∀ j, (firsts (fs ++ news.take j)).length ≤ 1099511627776) (hbd : ∀ j f, news[j]? = some f → (catOf f.k (fs ++ news.take j)).length + f.ar.size ≤ 1099511627776) :
    Calls Try.prog 13 #[.pointer (some ⟨d, 0, none⟩), .agg #[.slice (some ⟨C0, 0, none⟩) (n + 1) (n + 1), .pointer cu, .pointer none]] w fun e w' => AddEnd base d (text ++ content.data.toList) (set1 finish fin) (use.or us) (fs ++ news) tag w e w' := by
  have hclt : C0 < w.heap.size := lt_of_cell hC0
  obtain ⟨W1, hW1⟩ : ∃ W1, W1 = (w.alloc (.cells #[.slice (some ⟨C0, 0, none⟩) (n + 1) (n + 1), .pointer cu, .pointer none] 45)).alloc (.cells #[.string content, .slice ta tl tc, .string finish] 48) := ⟨_, rfl⟩
  have hb1 : Below w.heap.size w W1 := by rw [hW1]; exact ((Below.refl _ _).alloc (Nat.le_refl _) _).alloc (by simp) _
  have D1 := (D.below hb1).keep (w' := W1.drew) (Nat.le_refl _) (fun _ _ _ => rfl)
  have HWR : Hid (Calls Try.prog 23 #[.pointer (some ⟨d, 0, none⟩), .string content] W1.drew (fun e w' => WriteEnd 40 0 d #[p, v, .string fin, .pointer up, .map m, iv] base v text.length (Lib.byteCells text) content W1.drew e w')) :=
    write_any 40 0 d _ base p v text.length (Lib.byteCells text) content W1.drew D1.d0 rfl D1.self lies40 rfl D1.txt (fun e => by have h1 := D1.txtT d e; rw [D1.dt] at h1; cases h1) D1.bsz (by omega)
  rw [hW1] at HWR
  go_enter Try.func13, Try.ntmps13
  go_wp2_with fail
  go_region_with (go_at_call 23; refine HWR.out.mono ?_; rintro e w2 ⟨v', rfl, hd2, htx2, hlie2, hne2, hf2⟩)
  have D1' := D1
  rw [hW1] at D1'
  obtain ⟨t2, D2, S2⟩ := D1'.onText (.inr rfl) hd2 (wr_text htx2) hlie2 hf2
  have S1 : Step tag t2 W1 w2 := by rw [hW1]; exact (Step.drew tag _).trans S2
  clear S2 D1' D1 HWR hd2 htx2 hlie2 hne2 hf2
  have q1 : W1.heap[w.heap.size]? = some (.cells #[.slice (some ⟨C0, 0, none⟩) (n + 1) (n + 1), .pointer cu, .pointer none] 45 (0, 0)) := by rw [hW1]; exact (Below.heap_alloc _ _ _ (by simp)).trans (heap_alloc_new w _)
  have q2 : W1.heap[w.heap.size + 1]? = some (.cells #[.string content, .slice ta tl tc, .string finish] 48 (0, 0)) := by rw [hW1]; have := heap_alloc_new (w.alloc (.cells #[.slice (some ⟨C0, 0, none⟩) (n + 1) (n + 1), .pointer cu, .pointer none] 45)) (.cells #[.string content, .slice ta tl tc, .string finish] 48); simpa using this
  have HW1 : Hid (W1 = (w.alloc (.cells #[.slice (some ⟨C0, 0, none⟩) (n + 1) (n + 1), .pointer cu, .pointer none] 45)).alloc (.cells #[.string content, .slice ta tl tc, .string finish] 48)) := hW1
  clear hW1
  have hT1 : tag w.heap.size = none := D.sup _ (Nat.le_refl _)
  have hT2 : tag (w.heap.size + 1) = none := D.sup _ (Nat.le_succ _)
  have HF : Hid (IsFrags W1 ta tl news T0) := hF.below hb1
  have Q1 : Hid (∀ t' W, Step tag t' W1 W → W.heap[w.heap.size]? = some (.cells #[.slice (some ⟨C0, 0, none⟩) (n + 1) (n + 1), .pointer cu, .pointer none] 45 (0, 0))) := fun t' W S => (S.keep _ (lt_block q1) hT1).trans q1
  have Q2 : Hid (∀ t' W, Step tag t' W1 W → W.heap[w.heap.size + 1]? = some (.cells #[.string content, .slice ta tl tc, .string finish] 48 (0, 0))) := fun t' W S => (S.keep _ (lt_block q2) hT2).trans q2
  clear q1 q2 hT1 hT2 hF
  have b2 := Q2.out _ _ S1
  have cb0 : w2.cell? ⟨w.heap.size + 1, 1, none⟩ = some (.slice ta tl tc) := (cell_of_row w2 _ 1 _ _ _ b2).trans rfl
  clear b2
  go_wp2
  go_loopw [27, 6, 7] (fun i _ _ wr => ∃ k : Nat, k ≤ tl ∧ i = .int .i64 k ∧ ∃ t' p' v'' iv' m' blk', DraftAt base wr d (text ++ content.data.toList) fin us (fs ++ news.take k) t' p' v'' iv' up m' blk' ∧ Step tag t' W1 wr) (fun i _ _ _ => tl - (intOf i).toNat)
  case atStart => exact ⟨0, Nat.zero_le _, rfl, _, _, _, _, _, _, by simpa using D2, S1⟩
  case round =>
    obtain ⟨k, hk, rfl, t', p', v'', iv', m', blk', DR, SR⟩ := hrel
    clear D2 S1 cb0
    by_cases hlt : k < tl
    · obtain ⟨f, hf⟩ : ∃ f, news[k]? = some f := ⟨_, List.getElem?_eq_getElem (by rw [HF.out.len_eq]; exact hlt)⟩
      obtain ⟨g0, g1, g2, g3, g4⟩ := HF.out.at_ k f hf
      have hTlt := HF.out.lt (by omega)
      have hTs : ∀ o, wr.cell? ⟨T0, o, none⟩ = W1.cell? ⟨T0, o, none⟩ := fun o => World.cell?_of_block (w := W1) (SR.keep T0 hTlt hTt)
      rw [← hTs] at g0 g1 g2 g3 g4
      have hix : ∀ W, (Instr.indexAt 46 (.slice ta tl tc) (.int .i64 (k : Int))).run Try.prog W = .ok (.pointer (some ⟨T0, k * 5, none⟩)) W := fun W => index_run5 Try.underlying46 (fun _ => by kernel_rfl) (HF.out.ad (by omega)) tc k hlt W
      clear hTs hTlt
      have c4 : wr.cell? ⟨d, 4, none⟩ = some (.map m') := (cell_of_row wr d 4 _ _ _ DR.d0).trans rfl
      have f4 : wr.frozen? ⟨d, 4, none⟩ = false := frozen_of_row wr d 4 _ _ DR.d0
      have hdlt : d < wr.heap.size := lt_block DR.d0
      have hnm := fun W => run_eql_map_nil (P := Try.prog) W 38 3 70 m' Try.underlying38
      have hmm := @run_makeMap Try.prog
      have hTF : t' wr.heap.size = none := DR.sup _ (Nat.le_refl _)
      have hbF : Below wr.heap.size wr (wr.alloc (.cells #[.int .i64 f.k, .string f.id, .string f.ty, .string f.nm, .string f.ar] 52)) := (Below.refl _ _).alloc (Nat.le_refl _) _
      cases m'
      case' none =>
        go_wp2
        refine abs_world (fun W => ∃ t9 bm, DraftAt base W d (text ++ content.data.toList) fin us (fs ++ news.take k) t9 p' v'' iv' up (some bm) blk' ∧ Step tag t9 W1 W ∧ W.heap[wr.heap.size]? = some (.cells #[.int .i64 f.k, .string f.id, .string f.ty, .string f.nm, .string f.ar] 52 (0, 0)) ∧ t9 wr.heap.size = none) ?_ ?_
        · have h0 : fs ++ news.take k = [] := by rcases DR.mp with ⟨_, h'⟩ | ⟨_, _, _, h', _⟩; exact h'; cases h'
          rw [h0] at DR ⊢
          exact mkmap_world DR SR _ hTF
      case' some bm =>
        go_wp2
        refine abs_world (fun W => ∃ t9 bm, DraftAt base W d (text ++ content.data.toList) fin us (fs ++ news.take k) t9 p' v'' iv' up (some bm) blk' ∧ Step tag t9 W1 W ∧ W.heap[wr.heap.size]? = some (.cells #[.int .i64 f.k, .string f.id, .string f.ty, .string f.nm, .string f.ar] 52 (0, 0)) ∧ t9 wr.heap.size = none) ?_ ?_
        · exact ⟨t', bm, DR.below hbF, SR.trans (Step.of_below hbF), heap_alloc_new wr _, hTF⟩
      all_goals
        rintro W ⟨t9, bm9, D9, S9, hF9, hT9⟩
        clear DR SR hTF hbF g0 g1 g2 g3 g4 hix c4 f4 hdlt hnm hmm
        have c4 : W.cell? ⟨d, 4, none⟩ = some (.map (some bm9)) := (cell_of_row W d 4 _ _ _ D9.d0).trans rfl
        have cF : W.cell? ⟨wr.heap.size, 0, none⟩ = some (.int .i64 f.k) := (cell_of_row W _ 0 _ _ _ hF9).trans rfl
        obtain ⟨es, clock, hmt, hmb, hents⟩ : ∃ es clock, t9 bm9 = some 2 ∧ W.heap[bm9]? = some (.map es clock) ∧ Ents es (firsts (fs ++ news.take k)) blk' := by
          rcases D9.mp with ⟨h', _⟩ | ⟨bm, es, clock, h1, h2, h3, h4⟩
          · cases h'
          · cases h1; exact ⟨es, clock, h2, h3, h4⟩
        by_cases hkey : f.k ∈ firsts (fs ++ news.take k)
        case' pos =>
          obtain ⟨i, hi⟩ : ∃ i : Nat, (firsts (fs ++ news.take k))[i]? = some f.k := List.getElem?_of_mem hkey
          have hlk : ∀ nq, (Instr.lookup 38 (.map (some bm9)) (.int .i64 f.k) false).run Try.prog (W.drewN nq) = .ok (.pointer (some ⟨blk' i, 0, none⟩)) (W.drewN nq) := fun nq => look_hit (w := W.drewN nq) hmb hents (firsts_nodup _) hi
          have hlk1 : (Instr.lookup 38 (.map (some bm9)) (.int .i64 f.k) false).run Try.prog W.drew = .ok (.pointer (some ⟨blk' i, 0, none⟩)) W.drew := look_hit (w := W.drew) hmb hents (firsts_nodup _) hi
          go_quiet (fail)
          go_wp2
          refine abs_world (fun W => ∃ t blk2 iv2 i2, DraftAt base W d (text ++ content.data.toList) fin us ((fs ++ news.take k) ++ [⟨f.k, E, E, E, E⟩]) t p' v'' iv2 up (some bm9) blk2 ∧ Step tag t W1 W ∧ W.heap[wr.heap.size]? = some (.cells #[.int .i64 f.k, .string f.id, .string f.ty, .string f.nm, .string f.ar] 52 (0, 0)) ∧ t wr.heap.size = none ∧ (firsts ((fs ++ news.take k) ++ [⟨f.k, E, E, E, E⟩]))[i2]? = some f.k ∧ blk2 i2 = blk' i) ?_ ?_
          · exact ⟨t9, blk', iv', i, (D9.old hkey).keep (Nat.le_refl _) (fun _ _ _ => rfl), S9.trans ⟨rfl, rfl, rfl, Nat.le_refl _, fun _ _ => rfl, fun _ _ _ => rfl⟩, hF9, hT9, by rw [firsts_snoc, if_pos hkey]; exact hi, rfl⟩
        case' neg =>
          have hlk : ∀ nq, (Instr.lookup 38 (.map (some bm9)) (.int .i64 f.k) false).run Try.prog (W.drewN nq) = .ok (.pointer none) (W.drewN nq) := fun nq => look_miss (w := W.drewN nq) hmb hents hkey
          go_quiet (fail)
          go_wp2
          refine abs_world (fun W12 => Below W.heap.size W W12 ∧ W12.heap[W.heap.size]? = some (.cells #[.string E, .string E, .string E, .string E, .pointer none, .slice none 0 0] 75 (0, 0))) ?_ ?_
          · exact ⟨below_drewN ((Below.refl _ _).alloc (Nat.le_refl _) _) _, heap_alloc_new W _⟩
          rintro W12 ⟨hb12, hC12⟩
          have D12 := D9.below hb12
          have hmb12 : W12.heap[bm9]? = some (.map es clock) := (hb12.block _ (lt_block hmb)).trans hmb
          have c4' : W12.cell? ⟨d, 4, none⟩ = some (.map (some bm9)) := (cell_of_row W12 d 4 _ _ _ D12.d0).trans rfl
          have hF12 := (hb12.block _ (lt_block hF9)).trans hF9
          have cF' : W12.cell? ⟨wr.heap.size, 0, none⟩ = some (.int .i64 f.k) := (cell_of_row W12 _ 0 _ _ _ hF12).trans rfl
          obtain ⟨W13, hup, hmap13, hgr13⟩ := upd_new (w := W12.drew) hmb12 hents hkey (.pointer (some ⟨W.heap.size, 0, none⟩))
          go_region
          go_wp2
          have hbmd : bm9 ≠ d := fun e => by rw [e, D9.dt] at hmt; cases hmt
          have hbmF : bm9 ≠ wr.heap.size := fun e => by rw [e, hT9] at hmt; cases hmt
          have hbmC : bm9 ≠ W.heap.size := fun e => by rw [e, D9.sup _ (Nat.le_refl _)] at hmt; cases hmt
          have keep13 : ∀ j, j < W12.heap.size → j ≠ bm9 → W13.heap[j]? = W12.heap[j]? := fun j hj hne => hgr13.block j hj (by simpa using hne)
          have hd13 := (keep13 d (lt_block D12.d0) hbmd.symm).trans D12.d0
          have hF13 := (keep13 _ (lt_block hF12) hbmF.symm).trans hF12
          have hC13 := (keep13 _ (lt_block hC12) hbmC.symm).trans hC12
          have hI13 : W13.ownsRow base 3 1 iv' (firsts (fs ++ news.take k)).length ((firsts (fs ++ news.take k)).map (Value.int .i64)) := ownsRow_same D12.idx (fun g hg => keep13 g ((D12.idx.lt g hg).2) (fun e => by rw [← e, D12.idxT g hg] at hmt; cases hmt))
          have c5 : W13.cell? ⟨d, 5, none⟩ = some iv' := (cell_of_row W13 d 5 _ _ _ hd13).trans rfl
          have f5 : W13.frozen? ⟨d, 5, none⟩ = false := frozen_of_row W13 d 5 _ _ hd13
          have cF3 : W13.cell? ⟨wr.heap.size, 0, none⟩ = some (.int .i64 f.k) := (cell_of_row W13 _ 0 _ _ _ hF13).trans rfl
          have hdlt : d < W13.heap.size := lt_block hd13
          have hFlt : wr.heap.size < W13.heap.size := lt_block hF13
          have hlen : (firsts (fs ++ news.take k)).length ≤ 1099511627776 := by have := hnf k; exact this
          have hbs13 : base ≤ W13.heap.size := Nat.le_trans D12.bsz hgr13.size
          have hdI : some d ≠ iv'.ownBlock := fun e => by have h1 := D12.idxT d e.symm; rw [D12.dt] at h1; cases h1
          obtain ⟨i0, hi, hz0, hz1, hz2⟩ := info_parts Try.info3
          go_region_law ((refine step_append_lies _ (by rfl) _ _ _ (by rfl) base 3 i0 (.int .i64 0) 1 8 Try.underlying22 hi hz0 hz1 hz2 rfl (by decide) iv' (firsts (fs ++ news.take k)).length _ (by rfl) (by exact hI13.alloc _) ⟨W13.heap.size, 0, none⟩ 1 1 [.int .i64 f.k] (by rfl) rfl (by exact cell_one_new _ _ _) (ints_oneCell .i64 [f.k]) (by decide) (by unfold maxLen; omega) (by omega) (by simp; omega) (W13.heap.size + 1) (by simp) ?_; intro g cap W14 hI14 hgr14 hat14 hlt14; have hd14 := (hgr14.block d (by simp; omega) hdI).trans ((Below.heap_alloc W13 _ d hdlt).trans hd13); have c5' := (cell_of_row W14 d 5 _ _ _ hd14).trans rfl; have f5' := frozen_of_row W14 d 5 _ _ hd14))
          all_goals go_wp2
          all_goals refine abs_world (fun Z => ∃ t blk2 iv2 i2, DraftAt base Z d (text ++ content.data.toList) fin us ((fs ++ news.take k) ++ [⟨f.k, E, E, E, E⟩]) t p' v'' iv2 up (some bm9) blk2 ∧ Step tag t W1 Z ∧ Z.heap[wr.heap.size]? = some (.cells #[.int .i64 f.k, .string f.id, .string f.ty, .string f.nm, .string f.ar] 52 (0, 0)) ∧ t wr.heap.size = none ∧ (firsts ((fs ++ news.take k) ++ [⟨f.k, E, E, E, E⟩]))[i2]? = some f.k ∧ blk2 i2 = W.heap.size) ?_ ?_
          any_goals exact new_world (o := .cells #[.int .i64 f.k] 3) D9 S9 hF9 hT9 hkey hmt hents hmap13 hb12 ⟨hgr13.os, hgr13.tape, hgr13.output, hgr13.size⟩ keep13 hd13 hC13 (by exact ⟨rfl, rfl, rfl, rfl⟩) hI14 hgr14 hat14
          all_goals clear hI14 hgr14 hat14 hlt14 hd14 c5' f5' hi hz0 hz1 hz2 i0 hdI hbs13 hlen hFlt hdlt cF3 f5 c5 hI13 hC13 hF13 hd13 keep13 hbmC hbmF hbmd hup hmap13 hgr13 cF' hF12 c4' hmb12 D12 hb12 hC12 hlk
        all_goals
          rintro V0 ⟨t0, blk2, iv2, i0, D0, S0, hF0, hT0, hi0, hB⟩
          clear D9 S9 hF9 hT9 hmt hmb hents c4 cF
          obtain ⟨q0, u0, hc0, hq0, hown0, hut0, hne0⟩ := D0.midst hi0
          have cF0 : V0.cell? ⟨wr.heap.size, 1, none⟩ = some (.string f.id) := (cell_of_row V0 _ 1 _ _ _ hF0).trans rfl
          have HS0 := hideC (setOnce_any 75 0 (blk2 i0) _ (set1 (firstOf (·.id) f.k (fs ++ news.take k)) E) f.id V0.drew hc0 rfl)
          rw [hB] at HS0
          go_region_with (go_at_call 24; refine HS0.out.mono ?_; rintro e V1 ⟨rfl, hd1, hf1⟩)
          rw [← hB] at hd1 hf1
          have hd1' : V1.heap[blk2 i0]? = some (.cells #[.string (set1 (set1 (firstOf (·.id) f.k (fs ++ news.take k)) E) f.id), .string (set1 (firstOf (·.ty) f.k (fs ++ news.take k)) E), .string (set1 (firstOf (·.nm) f.k (fs ++ news.take k)) E), .string E, q0, u0] 75 (0, 0)) := hd1
          rw [set1_E (firstOf (·.id) f.k (fs ++ news.take k))] at hd1'
          obtain ⟨t1, D1, S1⟩ := (D0.keep (w' := V0.drew) (Nat.le_refl _) (fun _ _ _ => rfl)).once (w' := V1) (a' := f.id) (b' := E) (c' := E) hi0 hc0 hq0 hown0 hut0 hne0 hd1' hf1
          have hF1 := (S1.keep _ (lt_block (w := V0.drew) hF0) hT0).trans hF0
          have hT1 := (S1.same _ (lt_block (w := V0.drew) hF0)).trans hT0
          replace S1 := (S0.trans (Step.drew _ _)).trans S1
          have hi1 : (firsts ((fs ++ news.take k) ++ [⟨f.k, f.id, E, E, E⟩]))[i0]? = some f.k := by rw [firsts_swap (fs ++ news.take k) ⟨f.k, f.id, E, E, E⟩ ⟨f.k, E, E, E, E⟩ rfl]; exact hi0
          clear D0 S0 hF0 hT0 hi0 HS0 cF0 hc0 hq0 hown0 hut0 hne0 hd1 hd1' hf1
          go_wp2
          obtain ⟨q1, u1, hc1, hq1, hown1, hut1, hne1⟩ := D1.midst hi1
          have cF1 : V1.cell? ⟨wr.heap.size, 2, none⟩ = some (.string f.ty) := (cell_of_row V1 _ 2 _ _ _ hF1).trans rfl
          have HS1 := hideC (setOnce_any 75 1 (blk2 i0) _ (set1 (firstOf (·.ty) f.k (fs ++ news.take k)) E) f.ty V1.drew hc1 rfl)
          rw [hB] at HS1
          go_region_with (go_at_call 24; refine HS1.out.mono ?_; rintro e V2 ⟨rfl, hd2, hf2⟩)
          rw [← hB] at hd2 hf2
          have hd2' : V2.heap[blk2 i0]? = some (.cells #[.string (set1 (firstOf (·.id) f.k (fs ++ news.take k)) f.id), .string (set1 (set1 (firstOf (·.ty) f.k (fs ++ news.take k)) E) f.ty), .string (set1 (firstOf (·.nm) f.k (fs ++ news.take k)) E), .string E, q1, u1] 75 (0, 0)) := hd2
          rw [set1_E (firstOf (·.ty) f.k (fs ++ news.take k))] at hd2'
          obtain ⟨t2, D2, S2⟩ := (D1.keep (w' := V1.drew) (Nat.le_refl _) (fun _ _ _ => rfl)).once (w' := V2) (a' := f.id) (b' := f.ty) (c' := E) hi1 hc1 hq1 hown1 hut1 hne1 hd2' hf2
          have hF2 := (S2.keep _ (lt_block (w := V1.drew) hF1) hT1).trans hF1
          have hT2 := (S2.same _ (lt_block (w := V1.drew) hF1)).trans hT1
          replace S2 := (S1.trans (Step.drew _ _)).trans S2
          have hi2 : (firsts ((fs ++ news.take k) ++ [⟨f.k, f.id, f.ty, E, E⟩]))[i0]? = some f.k := by rw [firsts_swap (fs ++ news.take k) ⟨f.k, f.id, f.ty, E, E⟩ ⟨f.k, f.id, E, E, E⟩ rfl]; exact hi1
          clear D1 S1 hF1 hT1 hi1 HS1 cF1 hc1 hq1 hown1 hut1 hne1 hd2 hd2' hf2
          go_wp2
          obtain ⟨q2, u2, hc2, hq2, hown2, hut2, hne2⟩ := D2.midst hi2
          have cF2 : V2.cell? ⟨wr.heap.size, 3, none⟩ = some (.string f.nm) := (cell_of_row V2 _ 3 _ _ _ hF2).trans rfl
          have HS2 := hideC (setOnce_any 75 2 (blk2 i0) _ (set1 (firstOf (·.nm) f.k (fs ++ news.take k)) E) f.nm V2.drew hc2 rfl)
          rw [hB] at HS2
          go_region_with (go_at_call 24; refine HS2.out.mono ?_; rintro e V3 ⟨rfl, hd3, hf3⟩)
          rw [← hB] at hd3 hf3
          have hd3' : V3.heap[blk2 i0]? = some (.cells #[.string (set1 (firstOf (·.id) f.k (fs ++ news.take k)) f.id), .string (set1 (firstOf (·.ty) f.k (fs ++ news.take k)) f.ty), .string (set1 (set1 (firstOf (·.nm) f.k (fs ++ news.take k)) E) f.nm), .string E, q2, u2] 75 (0, 0)) := hd3
          rw [set1_E (firstOf (·.nm) f.k (fs ++ news.take k))] at hd3'
          obtain ⟨t3, D3, S3⟩ := (D2.keep (w' := V2.drew) (Nat.le_refl _) (fun _ _ _ => rfl)).once (w' := V3) (a' := f.id) (b' := f.ty) (c' := f.nm) hi2 hc2 hq2 hown2 hut2 hne2 hd3' hf3
          have hF3 := (S3.keep _ (lt_block (w := V2.drew) hF2) hT2).trans hF2
          have hT3 := (S3.same _ (lt_block (w := V2.drew) hF2)).trans hT2
          replace S3 := (S2.trans (Step.drew _ _)).trans S3
          have hi3 : (firsts ((fs ++ news.take k) ++ [⟨f.k, f.id, f.ty, f.nm, E⟩]))[i0]? = some f.k := by rw [firsts_swap (fs ++ news.take k) ⟨f.k, f.id, f.ty, f.nm, E⟩ ⟨f.k, f.id, f.ty, E, E⟩ rfl]; exact hi2
          clear D2 S2 hF2 hT2 hi2 HS2 cF2 hc2 hq2 hown2 hut2 hne2 hd3 hd3' hf3
          go_wp2
          obtain ⟨q3, u3, hc3, hq3, hown3, hut3, hne3⟩ := D3.midst hi3
          rw [cat_E] at hown3
          have cF3 : V3.cell? ⟨wr.heap.size, 4, none⟩ = some (.string f.ar) := (cell_of_row V3 _ 4 _ _ _ hF3).trans rfl
          have hcb := hbd k f hf
          have HS3 := hideC (write_any 75 4 (blk2 i0) _ base q3 u3 (catOf f.k (fs ++ news.take k)).length (Lib.byteCells (catOf f.k (fs ++ news.take k))) f.ar V3.drew hc3 rfl hq3 lies75 rfl hown3 hne3 D3.bsz (by omega))
          rw [hB] at HS3
          go_region_with (go_at_call 23; refine HS3.out.mono ?_; rintro e V4 ⟨u4, rfl, hd4, htx4, hlie4, _, hf4⟩)
          rw [← hB] at hd4 hf4
          obtain ⟨t4, D4, S4⟩ := (D3.keep (w' := V3.drew) (Nat.le_refl _) (fun _ _ _ => rfl)).frag (w' := V4) (a' := f.id) (b' := f.ty) (c' := f.nm) (r' := f.ar) hi3 hc3 hut3 (.inr rfl) hd4 (wr_text htx4) hlie4 hf4
          replace S4 := (S3.trans (Step.drew _ _)).trans S4
          have e4 : fs ++ news.take (k + 1) = (fs ++ news.take k) ++ [⟨f.k, f.id, f.ty, f.nm, f.ar⟩] := by rw [List.append_assoc]; congr 1; rw [List.take_add_one, hf]; rfl
          rw [← e4] at D4
          clear D3 S3 hF3 hT3 hi3 HS3 cF3 hc3 hq3 hown3 hut3 hne3 hd4 hf4 htx4 hlie4 e4 hcb
          go_wp2
          go_roundw
          case rel => exact ⟨k + 1, by omega, by go_num, _, _, _, _, _, _, D4, S4⟩
          case measure => simp [intOf]; omega
    · have htk : news.take k = news := List.take_of_length_le (by rw [HF.out.len_eq]; omega)
      rw [htk] at DR
      clear htk
      have b2 := Q2.out _ _ SR
      have b1 := Q1.out _ _ SR
      have c2 : wr.cell? ⟨w.heap.size + 1, 2, none⟩ = some (.string finish) := (cell_of_row wr _ 2 _ _ _ b2).trans rfl
      have c1 : wr.cell? ⟨w.heap.size, 1, none⟩ = some (.pointer cu) := (cell_of_row wr _ 1 _ _ _ b1).trans rfl
      have cd2 : wr.cell? ⟨d, 2, none⟩ = some (.string fin) := (cell_of_row wr d 2 _ _ _ DR.d0).trans rfl
      have fd2 : wr.frozen? ⟨d, 2, none⟩ = false := frozen_of_row wr d 2 _ _ DR.d0
      have hdw : d < w.heap.size := lt_block D.d0
      have S0w : Step tag tag w W1 := Step.of_below hb1
      clear b1 b2
      rcases hU with ⟨rfl, rfl⟩ | ⟨U, a, c, rfl, rfl, hUt, hUb⟩
      · cases hfe : finish.toList.isEmpty with
        | true =>
          go_wp2
          go_end0
          exact ⟨rfl, t', p', v'', iv', up, m', blk', by rw [set1_yes hfe]; exact DR, S0w.trans SR⟩
        | false =>
          go_wp2
          go_end0
          exact ⟨rfl, t', p', v'', iv', up, m', blk', by rw [set1_no hfe]; exact (fin_world DR).1, (S0w.trans SR).trans (fin_world DR).2⟩
      · have hUr : wr.heap[U]? = some (.cells #[.int .i64 a, .int .i64 c] 54 (0, 0)) := ((S0w.trans SR).keep U (lt_block hUb) hUt).trans hUb
        have hUd : U ≠ d := fun e => by rw [e, D.dt] at hUt; cases hUt
        have hUw : U < w.heap.size := lt_block hUb
        cases hfe : finish.toList.isEmpty with
        | true =>
          go_wp2
          refine abs_world (fun Z => DraftAt base Z d (text ++ content.data.toList) fin us (fs ++ news) t' p' v'' iv' up m' blk' ∧ Step tag t' w Z ∧ Z.heap[U]? = some (.cells #[.int .i64 a, .int .i64 c] 54 (0, 0)) ∧ Z.cell? ⟨w.heap.size, 1, none⟩ = some (.pointer (some ⟨U, 0, none⟩))) ⟨DR, S0w.trans SR, hUr, c1⟩ ?_
          rintro Z ⟨DZ, SZ, hUZ, cZ⟩
          clear DR SR c1 c2 cd2 fd2 hUr
          have cu0 : Z.cell? ⟨U, 0, none⟩ = some (.int .i64 a) := (cell_of_row Z _ 0 _ _ _ hUZ).trans rfl
          have cu1 : Z.cell? ⟨U, 1, none⟩ = some (.int .i64 c) := (cell_of_row Z _ 1 _ _ _ hUZ).trans rfl
          have cd3 : Z.cell? ⟨d, 3, none⟩ = some (.pointer up) := (cell_of_row Z d 3 _ _ _ DZ.d0).trans rfl
          have fd3 : Z.frozen? ⟨d, 3, none⟩ = false := frozen_of_row Z d 3 _ _ DZ.d0
          have hdZ : d < Z.heap.size := lt_block DZ.d0
          go_region
          all_goals go_wp2
          all_goals go_end0
          all_goals (obtain ⟨t9, D9, S9⟩ := use_world DZ a c; exact ⟨rfl, t9, _, _, _, _, _, _, by rw [set1_yes hfe]; exact D9, SZ.trans S9⟩)
        | false =>
          go_wp2
          refine abs_world (fun Z => DraftAt base Z d (text ++ content.data.toList) finish us (fs ++ news) t' p' v'' iv' up m' blk' ∧ Step tag t' w Z ∧ Z.heap[U]? = some (.cells #[.int .i64 a, .int .i64 c] 54 (0, 0)) ∧ Z.cell? ⟨w.heap.size, 1, none⟩ = some (.pointer (some ⟨U, 0, none⟩))) ⟨(fin_world DR).1, (S0w.trans SR).trans (fin_world DR).2, (Below.heap_setCell wr ⟨d, 2, none⟩ _ U hUd).trans hUr, (World.cell?_setCell_other _ _ _ _ (by simp)).trans c1⟩ ?_
          rintro Z ⟨DZ, SZ, hUZ, cZ⟩
          clear DR SR c1 c2 cd2 fd2 hUr
          have cu0 : Z.cell? ⟨U, 0, none⟩ = some (.int .i64 a) := (cell_of_row Z _ 0 _ _ _ hUZ).trans rfl
          have cu1 : Z.cell? ⟨U, 1, none⟩ = some (.int .i64 c) := (cell_of_row Z _ 1 _ _ _ hUZ).trans rfl
          have cd3 : Z.cell? ⟨d, 3, none⟩ = some (.pointer up) := (cell_of_row Z d 3 _ _ _ DZ.d0).trans rfl
          have fd3 : Z.frozen? ⟨d, 3, none⟩ = false := frozen_of_row Z d 3 _ _ DZ.d0
          have hdZ : d < Z.heap.size := lt_block DZ.d0
          go_region
          all_goals go_wp2
          all_goals go_end0
          all_goals (obtain ⟨t9, D9, S9⟩ := use_world DZ a c; exact ⟨rfl, t9, _, _, _, _, _, _, by rw [set1_no hfe]; exact D9, SZ.trans S9⟩)
end Go.Proofs.Qxb6605202a
