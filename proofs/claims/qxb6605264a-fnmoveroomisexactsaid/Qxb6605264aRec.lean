import Derived.Test.Qxb6605264aW1
import Derived.Test.Qxb6605264aPlain
import Derived.Laws.CopyOwn
namespace Go.Proofs.Qxb6605264a
open Go.RowKit

/-- The records in the row R. -/
def RecAt (w : World) (R m : Nat) (at_ ln rm : Nat → Int) : Prop :=
  ∃ cur, w.heap[R]? = some (.cells cur 59 (0, 0)) ∧ cur.size = m * 11 ∧ ∀ k, k < m → cur[k * 11 + 5]? = some (.int .i64 (at_ k)) ∧ cur[k * 11 + 6]? = some (.int .u32 (ln k)) ∧ cur[k * 11 + 7]? = some (.int .u32 (rm k))

variable {w w' : World} {R m i : Nat} {at_ ln rm : Nat → Int}

theorem RecAt.same (h : RecAt w R m at_ ln rm) (hb : w'.heap[R]? = w.heap[R]?) : RecAt w' R m at_ ln rm := by
  obtain ⟨cur, h1, h2⟩ := h
  exact ⟨cur, hb.trans h1, h2⟩

theorem RecAt.lt (h : RecAt w R m at_ ln rm) : R < w.heap.size := by
  obtain ⟨cur, h1, _⟩ := h
  exact lt_block h1

theorem RecAt.can (h : RecAt w R m at_ ln rm) (k : Nat) (hk : k < m) : w.cell? ⟨R, k * 11 + 5, none⟩ = some (.int .i64 (at_ k)) ∧ w.cell? ⟨R, k * 11 + 6, none⟩ = some (.int .u32 (ln k)) ∧ w.cell? ⟨R, k * 11 + 7, none⟩ = some (.int .u32 (rm k)) ∧ (∀ o, w.frozen? ⟨R, o, none⟩ = false) := by
  obtain ⟨cur, hb, hs, hall⟩ := h
  obtain ⟨g0, g1, g2⟩ := hall k hk
  exact ⟨(cell_of_row w R _ cur 59 _ hb).trans g0, (cell_of_row w R _ cur 59 _ hb).trans g1, (cell_of_row w R _ cur 59 _ hb).trans g2, fun o => frozen_of_row w R o cur 59 hb⟩

theorem RecAt.setAt (h : RecAt w R m at_ ln rm) (hi : i < m) (v : Int) : RecAt (w.setCell ⟨R, i * 11 + 5, none⟩ (.int .i64 v)) R m (upd at_ i v) ln rm := by
  obtain ⟨cur, hb, hs, hall⟩ := h
  refine ⟨_, heap_setCell_same w R _ cur 59 _ hb, by simpa using hs, fun k hk => ?_⟩
  obtain ⟨g0, g1, g2⟩ := hall k hk
  refine ⟨?_, by rw [Array.getElem?_setIfInBounds_ne (by omega)]; exact g1, by rw [Array.getElem?_setIfInBounds_ne (by omega)]; exact g2⟩
  by_cases e : k = i
  · subst e
    rw [Array.getElem?_setIfInBounds_self_of_lt (by omega), upd_same]
  · rw [Array.getElem?_setIfInBounds_ne (by omega), upd_ne _ _ e]
    exact g0

theorem RecAt.setLen (h : RecAt w R m at_ ln rm) (hi : i < m) (v : Int) : RecAt (w.setCell ⟨R, i * 11 + 6, none⟩ (.int .u32 v)) R m at_ (upd ln i v) rm := by
  obtain ⟨cur, hb, hs, hall⟩ := h
  refine ⟨_, heap_setCell_same w R _ cur 59 _ hb, by simpa using hs, fun k hk => ?_⟩
  obtain ⟨g0, g1, g2⟩ := hall k hk
  refine ⟨by rw [Array.getElem?_setIfInBounds_ne (by omega)]; exact g0, ?_, by rw [Array.getElem?_setIfInBounds_ne (by omega)]; exact g2⟩
  by_cases e : k = i
  · subst e
    rw [Array.getElem?_setIfInBounds_self_of_lt (by omega), upd_same]
  · rw [Array.getElem?_setIfInBounds_ne (by omega), upd_ne _ _ e]
    exact g1

theorem RecAt.setRoom (h : RecAt w R m at_ ln rm) (hi : i < m) (v : Int) : RecAt (w.setCell ⟨R, i * 11 + 7, none⟩ (.int .u32 v)) R m at_ ln (upd rm i v) := by
  obtain ⟨cur, hb, hs, hall⟩ := h
  refine ⟨_, heap_setCell_same w R _ cur 59 _ hb, by simpa using hs, fun k hk => ?_⟩
  obtain ⟨g0, g1, g2⟩ := hall k hk
  refine ⟨by rw [Array.getElem?_setIfInBounds_ne (by omega)]; exact g0, by rw [Array.getElem?_setIfInBounds_ne (by omega)]; exact g1, ?_⟩
  by_cases e : k = i
  · subst e
    rw [Array.getElem?_setIfInBounds_self_of_lt (by omega), upd_same]
  · rw [Array.getElem?_setIfInBounds_ne (by omega), upd_ne _ _ e]
    exact g2

theorem RecAt.congr {a2 l2 r2 : Nat → Int} (h : RecAt w R m at_ ln rm) (ha : ∀ k, k < m → at_ k = a2 k) (hl : ∀ k, k < m → ln k = l2 k) (hr : ∀ k, k < m → rm k = r2 k) : RecAt w R m a2 l2 r2 := by
  obtain ⟨cur, hb, hs, hall⟩ := h
  refine ⟨cur, hb, hs, fun k hk => ?_⟩
  rw [← ha k hk, ← hl k hk, ← hr k hk]
  exact hall k hk

theorem RowTo.congr {K : IntKind} {T : TypeId} {B len k : Nat} {f g : Nat → Int} (h : RowTo K T w B len k f) (hfg : ∀ j, j < k → f j = g j) : RowTo K T w B len k g := by
  obtain ⟨cur, hb, hs, hall⟩ := h
  exact ⟨cur, hb, hs, fun j hj => by rw [← hfg j hj]; exact hall j hj⟩

/-- The bytes c laid over g from off on. -/
def over (g : Nat → Int) (off c : Nat) (f : Nat → Int) (x : Nat) : Int := if off ≤ x ∧ x < off + c then f (x - off) else g x

theorem Try.one5 : (Try.prog.info? 5).map (·.size) = some 1 := by kernel_rfl

/-- 'copy(ids[off:], src)'. -/
theorem copy_run (w : World) (D S off sl sc : Nat) (g f : Nat → Int) (sp : Option Addr) (hD : RowTo .u8 5 w D S S g) (ho : off ≤ S) (hs : Ints .u8 w sp sl f) :
    ∃ W', (Builtin.copy_ #[30, 30] 3 #[.slice (if S = off then some ⟨D, 0, none⟩ else some ⟨D, off, none⟩) (S - off) (S - off), .slice sp sl sc]).run Try.prog w = .ok (goInt (Nat.min sl (S - off))) W' ∧
      RowTo .u8 5 W' D S S (over g off (Nat.min sl (S - off)) f) ∧ W'.heap.size = w.heap.size ∧ (∀ b, b ≠ D → W'.heap[b]? = w.heap[b]?) ∧ W'.os = w.os ∧ W'.tape = w.tape ∧ W'.output = w.output := by
  by_cases h0 : Nat.min sl (S - off) = 0
  · refine ⟨w, ?_, ?_, rfl, fun _ _ => rfl, rfl, rfl, rfl⟩
    · rw [run_copy_none (P := Try.prog) w 30 30 3 5 _ sp _ _ sl sc Try.underlying30 Try.one5 h0, h0]
      rfl
    · exact hD.congr (fun j hj => by unfold over; rw [if_neg (by omega)])
  · have hle1 : Nat.min sl (S - off) ≤ sl := Nat.min_le_left _ _
    have hle2 : Nat.min sl (S - off) ≤ S - off := Nat.min_le_right _ _
    have hsl : 0 < sl := by omega
    have hso : 0 < S - off := by omega
    obtain ⟨b, o, rfl, hlt, hcell⟩ := hs.at_ hsl
    obtain ⟨cur, hb, hsz, hall⟩ := hD
    obtain ⟨cs, hcs⟩ : ∃ cs, cs = (List.range (Nat.min sl (S - off))).map (fun j => Value.int .u8 (f j)) := ⟨_, rfl⟩
    have hlen : cs.length = Nat.min sl (S - off) := by rw [hcs]; simp
    have hat : ∀ j, j < cs.length → cs[j]? = some (.int .u8 (f j)) := fun j hj => by rw [hlen] at hj; rw [hcs, List.getElem?_map, List.getElem?_range hj]; rfl
    have hrun := run_copy_row (P := Try.prog) w 30 30 3 5 D off (S - off) (S - off) ⟨b, o, none⟩ sl sc cur 5 cs Try.underlying30 Try.one5 hb hlen (fun j v hv => by
      have hj := (List.getElem?_eq_some_iff.1 hv).1
      rw [hat j hj] at hv
      rw [← Option.some.inj hv, Addr.add_lit]
      exact hcell j (by omega)) (by omega) (by rw [hcs]; intro v hv; simp at hv; obtain ⟨j, _, rfl⟩ := hv; rfl)
    rw [if_neg (by omega), hrun, hlen]
    refine ⟨_, rfl, ⟨_, setRow_heap w D _ _ 5 _ hb, ?_, fun j hj => ?_⟩, by simp [World.setRow], fun b' hb' => setRow_other w D b' _ hb', rfl, rfl, rfl⟩
    · simp [hlen, hsz]; omega
    · have hcl : cur.toList.length = S := by rw [Array.length_toList, hsz]
      rw [List.getElem?_toArray, List.append_assoc]
      unfold over
      by_cases h1 : j < off
      · rw [List.getElem?_append_left (by simp; omega), List.getElem?_take_of_lt h1, if_neg (by omega), Array.getElem?_toList]
        exact hall j hj
      · rw [List.getElem?_append_right (by simp; omega)]
        by_cases h2 : j < off + Nat.min sl (S - off)
        · rw [if_pos ⟨by omega, h2⟩, List.getElem?_append_left (by simp [hlen, hcl]; omega)]
          rw [List.length_take, hcl, Nat.min_eq_left (by omega)]
          exact hat _ (by omega)
        · rw [if_neg (by omega), List.getElem?_append_right (by simp [hlen, hcl]; omega), List.getElem?_drop, Array.getElem?_toList]
          rw [List.length_take, hcl, Nat.min_eq_left (by omega), hlen]
          rw [show off + Nat.min sl (S - off) + (j - off - Nat.min sl (S - off)) = j by omega]
          exact hall j hj
end Go.Proofs.Qxb6605264a
