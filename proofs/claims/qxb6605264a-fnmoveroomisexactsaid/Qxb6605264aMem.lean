/-
  WHAT THE WALKS ARE TOLD OF MEMORY: a slice of integers as a function of the place; a row that the call itself made.
-/
import Derived.Test.Qxb6605264aProg
import Derived.WalkKit
import Derived.WalkSpells
import Derived.WalkLawsBesides
import Derived.Lib.Strings
namespace Go.Proofs.Qxb6605264a
open Go.RowKit

/-- The slice (a, len, ..) reads as f. Of the address nothing is said where there is no element. -/
structure Ints (k : IntKind) (w : World) (a : Option Addr) (len : Nat) (f : Nat → Int) : Prop where
  at_ : 0 < len → ∃ b off, a = some ⟨b, off, none⟩ ∧ b < w.heap.size ∧ ∀ j, j < len → w.cell? ⟨b, off + j, none⟩ = some (.int k (f j))

theorem Ints.below {k : IntKind} {w w' : World} {a : Option Addr} {len : Nat} {f : Nat → Int} (h : Ints k w a len f) (hb : Below w.heap.size w w') : Ints k w' a len f := by
  refine ⟨fun h0 => ?_⟩
  obtain ⟨b, off, e, hlt, hc⟩ := h.at_ h0
  exact ⟨b, off, e, Nat.lt_of_lt_of_le hlt hb.size, fun j hj => (hb.cell (by exact hlt)).trans (hc j hj)⟩

theorem Ints.nil (k : IntKind) (w : World) (a : Option Addr) (f : Nat → Int) : Ints k w a 0 f := ⟨fun h => absurd h (by omega)⟩

theorem index_run {P : Program} {t e : TypeId} (hu : P.underlying t = some (.slice e)) (hsz : ∀ w, (sizeOf e).run P w = .ok 1 w) {a : Option Addr} {b off len : Nat} (ha : a = some ⟨b, off, none⟩) (cap k : Nat) (hk : k < len) (w : World) :
    (Instr.indexAt t (.slice a len cap) (.int .i64 (k : Int))).run P w = .ok (.pointer (some ⟨b, off + k, none⟩)) w := by
  subst ha
  have h1 : P.elem t = e := by simp [Program.elem, hu]
  rw [run_indexAt_slice _ _ _ _ _ _ _ (by rw [h1]; exact hu), if_pos ⟨by omega, by omega⟩, h1, hsz]
  simp [Result.andThen, Addr.add]

theorem lt_of_cell {w : World} {a : Addr} {v : Value} (h : w.cell? a = some v) : a.block < w.heap.size := by
  by_cases hl : a.block < w.heap.size
  · exact hl
  · have : w.heap[a.block]? = none := by simp; omega
    simp [World.cell?, this] at h

theorem lt_block {w : World} {b : Nat} {o : Obj} (h : w.heap[b]? = some o) : b < w.heap.size := (Array.getElem?_eq_some_iff.1 h).1

/-- What 'open_ints' gives. -/
theorem Ints.of_open {k : IntKind} {w : World} {x : Addr} {len cap : Nat} {zs : List Int} (hl : len ≤ cap) (hz : zs.length = cap) (hcell : ∀ i, i < zs.length → w.cell? (x.add i) = some (.int k (zs.getD i 0))) :
    Ints k w (some x) len (fun j => zs.getD j 0) := by
  refine ⟨fun h0 => ?_⟩
  obtain ⟨b, off, spot⟩ := x
  have hspot : spot = none := by simpa [Addr.add] using World.cell?_spot (hcell 0 (by omega))
  subst hspot
  have h1 := hcell 0 (by omega)
  simp only [Addr.add_lit] at h1
  refine ⟨b, off, rfl, lt_of_cell h1, fun j hj => ?_⟩
  have h2 := hcell j (by omega)
  simp only [Addr.add_lit] at h2
  exact h2

/-- The world under a name, with what is known of it. -/
theorem abs_world {P : Program} {c : Code} {Q : Exit → Act → World → Prop} {a : Act} {W : World} (R : World → Prop) (hR : R W) (h : ∀ W', R W' → Code.wp P c Q a W') : Code.wp P c Q a W := h W hR

theorem hide {p : Prop} (h : p) : Hid p := h

/-- A row of integers that the call itself made, filled as far as k. -/
def RowTo (K : IntKind) (T : TypeId) (w : World) (B len k : Nat) (f : Nat → Int) : Prop :=
  ∃ cur, w.heap[B]? = some (.cells cur T (0, 0)) ∧ cur.size = len ∧ ∀ j, j < k → cur[j]? = some (.int K (f j))

/-- f with v at the place i. -/
def upd (f : Nat → Int) (i : Nat) (v : Int) (j : Nat) : Int := if j = i then v else f j
theorem upd_same (f : Nat → Int) (i : Nat) (v : Int) : upd f i v i = v := if_pos rfl
theorem upd_ne (f : Nat → Int) {i j : Nat} (v : Int) (h : j ≠ i) : upd f i v j = f j := if_neg h

theorem RowTo.set {K : IntKind} {T : TypeId} {w : World} {B len k i : Nat} {f : Nat → Int} {v : Int} (h : RowTo K T w B len k f) (hi : i < len) : RowTo K T (w.setCell ⟨B, i, none⟩ (.int K v)) B len k (upd f i v) := by
  obtain ⟨cur, hb, hs, hall⟩ := h
  refine ⟨_, heap_setCell_same w B i cur T _ hb, by simpa using hs, fun j hj => ?_⟩
  by_cases e : j = i
  · subst e
    rw [Array.getElem?_setIfInBounds_self_of_lt (by omega), upd_same]
  · rw [Array.getElem?_setIfInBounds_ne (by omega), upd_ne f v e]
    exact hall j hj

theorem RowTo.step {K : IntKind} {T : TypeId} {w : World} {B len k : Nat} {f : Nat → Int} (h : RowTo K T w B len k f) (hk : k < len) : RowTo K T (w.setCell ⟨B, k, none⟩ (.int K (f k))) B len (k + 1) f := by
  obtain ⟨cur, hb, hs, hall⟩ := h
  refine ⟨_, heap_setCell_same w B k cur T _ hb, by simpa using hs, fun j hj => ?_⟩
  by_cases e : j = k
  · subst e
    rw [Array.getElem?_setIfInBounds_self_of_lt (by omega)]
  · rw [Array.getElem?_setIfInBounds_ne (by omega)]
    exact hall j (by omega)

theorem RowTo.can {K : IntKind} {T : TypeId} {w : World} {B len k : Nat} {f : Nat → Int} (h : RowTo K T w B len k f) (o : Nat) (ho : o < len) : (∃ v, w.cell? ⟨B, o, none⟩ = some v) ∧ w.frozen? ⟨B, o, none⟩ = false := by
  obtain ⟨cur, hb, hs, _⟩ := h
  exact ⟨⟨cur[o]'(by omega), (cell_of_row w B o cur T _ hb).trans (Array.getElem?_eq_getElem (by omega))⟩, frozen_of_row w B o cur T hb⟩

theorem RowTo.cell {K : IntKind} {T : TypeId} {w : World} {B len k : Nat} {f : Nat → Int} (h : RowTo K T w B len k f) (o : Nat) (ho : o < k) : w.cell? ⟨B, o, none⟩ = some (.int K (f o)) := by
  obtain ⟨cur, hb, hs, hall⟩ := h
  exact (cell_of_row w B o cur T _ hb).trans (hall o ho)

theorem RowTo.same {K : IntKind} {T : TypeId} {w w' : World} {B len k : Nat} {f : Nat → Int} (h : RowTo K T w B len k f) (hb : w'.heap[B]? = w.heap[B]?) : RowTo K T w' B len k f := by
  obtain ⟨cur, h1, h2⟩ := h
  exact ⟨cur, hb.trans h1, h2⟩

theorem RowTo.ints {K : IntKind} {T : TypeId} {w : World} {B len : Nat} {f : Nat → Int} (h : RowTo K T w B len len f) : Ints K w (some ⟨B, 0, none⟩) len f := by
  refine ⟨fun _ => ⟨B, 0, rfl, ?_, fun j hj => ?_⟩⟩
  · obtain ⟨cur, hb, _⟩ := h
    exact lt_block hb
  · rw [Nat.zero_add]
    exact h.cell j hj

theorem row_block {w : World} {base g n size : Nat} {e : TypeId} {z : Array Value} (h : w.ownsRow base e size (.slice (some ⟨g, 0, none⟩) n n) n (madeCells z (n * size)).toList) : w.heap[g]? = some (.cells (madeCells z (n * size)) e (0, 0)) := by
  rcases h.2 with ⟨hv, _⟩ | ⟨g', cap, cur, hv, _, hg, hnc, _, hcs, htake⟩
  · cases hv
  · injection hv with ha _ hcap
    injection ha with ha
    injection ha with hgg _ _
    subst hgg
    subst hcap
    rw [hg]
    have : cur = madeCells z (n * size) := by
      apply Array.toList_inj.1
      rw [← htake, List.take_of_length_le (by rw [Array.length_toList, hcs]; exact Nat.le_refl _)]
    rw [this]

theorem made_at {z : Array Value} {N i : Nat} (h : i < N) : (madeCells z N)[i]? = some (z[i % z.size]!) := by
  simp [madeCells, h]

/-- A new row of zeros. -/
theorem RowTo.made {K : IntKind} {T : TypeId} {w : World} {base g n : Nat} (h : w.ownsRow base T 1 (.slice (some ⟨g, 0, none⟩) n n) n (madeCells (Value.int K 0).cells (n * 1)).toList) : RowTo K T w g n n (fun _ => 0) := by
  refine ⟨_, row_block h, by simp [size_madeCells], fun j hj => ?_⟩
  rw [made_at (by omega)]
  simp only [Value.cells]
  rw [show (#[Value.int K 0] : Array Value).size = 1 from rfl, Nat.mod_one]
  rfl

theorem RowTo.to0 {K : IntKind} {T : TypeId} {w : World} {B len k : Nat} {f g : Nat → Int} (h : RowTo K T w B len k f) : RowTo K T w B len 0 g := by
  obtain ⟨cur, h1, h2, _⟩ := h
  exact ⟨cur, h1, h2, fun j hj => absurd hj (by omega)⟩

theorem size3 (w : World) : (sizeOf 3).run Try.prog w = .ok 1 w := by kernel_rfl
theorem size38 (w : World) : (sizeOf 38).run Try.prog w = .ok 1 w := by kernel_rfl
theorem size5 (w : World) : (sizeOf 5).run Try.prog w = .ok 1 w := by kernel_rfl
theorem size4 (w : World) : (sizeOf 4).run Try.prog w = .ok 1 w := by kernel_rfl
theorem Try.info3 : (Try.prog.info? 3).map (fun i => (i.zero, i.size, i.bytes)) = some (some (.int .i64 0), 1, 8) := by kernel_rfl
theorem Try.info38 : (Try.prog.info? 38).map (fun i => (i.zero, i.size, i.bytes)) = some (some (.int .u32 0), 1, 4) := by kernel_rfl
theorem Try.info5 : (Try.prog.info? 5).map (fun i => (i.zero, i.size, i.bytes)) = some (some (.int .u8 0), 1, 1) := by kernel_rfl
theorem Try.info4 : (Try.prog.info? 4).map (fun i => (i.zero, i.size, i.bytes)) = some (some (.bool false), 1, 1) := by kernel_rfl
theorem Try.info59 : (Try.prog.info? 59).map (fun i => (i.zero, i.size, i.bytes)) = some (some (.agg #[.int .i64 0, .int .i64 0, .int .i64 0, .int .i64 0, .int .i64 0, .int .i64 0, .int .u32 0, .int .u32 0, .int .i32 0, .int .u8 0, .bool false]), 11, 64) := by kernel_rfl
end Go.Proofs.Qxb6605264a
