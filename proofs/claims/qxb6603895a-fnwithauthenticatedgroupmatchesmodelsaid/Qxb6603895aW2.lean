import Derived.Test.Qxb6603895aW1
namespace Go.Proofs.Qxb6603895a
open Go.RowKit

def sAG : ByteArray := ⟨#[115, 121, 115, 116, 101, 109, 58, 97, 117, 116, 104, 101, 110, 116, 105, 99, 97, 116, 101, 100]⟩

/-- The block b holds a User. -/
structure IsUser (w : World) (b : Nat) (name uid : ByteArray) (a : Option Addr) (len cap : Nat) (m : Option Nat) : Prop where
  c0 : w.cell? ⟨b, 0, none⟩ = some (.string name)
  c1 : w.cell? ⟨b, 1, none⟩ = some (.string uid)
  c2 : w.cell? ⟨b, 2, none⟩ = some (.slice a len cap)
  c3 : w.cell? ⟨b, 3, none⟩ = some (.map m)
  blk : w.heap[b]? = some (.cells #[.string name, .string uid, .slice a len cap, .map m] 31 (0, 0))

theorem IsUser.of_blk {w : World} {b : Nat} {name uid : ByteArray} {a : Option Addr} {len cap : Nat} {m : Option Nat} (h : w.heap[b]? = some (.cells #[.string name, .string uid, .slice a len cap, .map m] 31 (0, 0))) : IsUser w b name uid a len cap m :=
  ⟨(cell_of_row w b 0 _ _ _ h).trans rfl, (cell_of_row w b 1 _ _ _ h).trans rfl, (cell_of_row w b 2 _ _ _ h).trans rfl, (cell_of_row w b 3 _ _ _ h).trans rfl, h⟩

/-- How it ends where the group is there already. -/
def HasEnd (w : World) (name uid : ByteArray) (a : Option Addr) (len cap : Nat) (m : Option Nat) (e : Ending) (w' : World) : Prop :=
  ∃ r, e = .returned (.pointer (some ⟨r, 0, none⟩)) ∧ w.heap.size ≤ r ∧ IsUser w' r name uid a len cap m ∧ Below w.heap.size w w'

theorem IsUser.below {w w' : World} {b : Nat} {name uid : ByteArray} {a : Option Addr} {len cap : Nat} {m : Option Nat} (h : IsUser w b name uid a len cap m) (hb : Below w.heap.size w w') : IsUser w' b name uid a len cap m := by
  have hlt : b < w.heap.size := lt_of_cell h.c0
  exact .of_blk ((hb.block b hlt).trans h.blk)

set_option maxHeartbeats 400000 in
theorem with_has (b : Nat) (name uid : ByteArray) (a : Option Addr) (len cap : Nat) (ss : List ByteArray) (m : Option Nat) (w : World) (hU : IsUser w b name uid a len cap m) (hS : IsStrs w a len ss) (hlen : len ≤ 65536) (hm : mem ss sAG = true) :
    Calls Try.prog 13 #[.pointer (some ⟨b, 0, none⟩)] w fun e w' => HasEnd w name uid a len cap m e w' := by
  obtain ⟨c0, c1, c2, c3, _⟩ := hU
  have hlt : b < w.heap.size := lt_of_cell c0
  have hal : Below w.heap.size w (w.alloc (.cells #[.string name, .string uid, .slice a len cap, .map m] 31)) := (Below.refl _ _).alloc (Nat.le_refl _) _
  go_enter Try.func13, Try.ntmps13
  go_wp2_with fail
  refine (index_any a len cap ss sAG _ (hS.below hal) hlen).mono ?_
  rintro e w' ⟨rfl, hw⟩
  subst hw
  go_wp2_with fail
  go_ret
  exact ⟨_, rfl, Nat.le_refl _, .of_blk (heap_alloc_new w _), hal⟩

/-- How it ends where the group is put in. -/
def AddEnd (w : World) (name uid : ByteArray) (len : Nat) (ss : List ByteArray) (m : Option Nat) (e : Ending) (w' : World) : Prop :=
  ∃ r g cap, e = .returned (.pointer (some ⟨r, 0, none⟩)) ∧ w.heap.size ≤ r ∧ IsUser w' r name uid (some ⟨g, 0, none⟩) (len + 1) cap m ∧ IsStrs w' (some ⟨g, 0, none⟩) (len + 1) (ss ++ [sAG]) ∧ Below w.heap.size w w'

set_option maxHeartbeats 400000 in
theorem with_not (b : Nat) (name uid : ByteArray) (a : Option Addr) (len cap : Nat) (ss : List ByteArray) (m : Option Nat) (w : World) (hU : IsUser w b name uid a len cap m) (hS : IsStrs w a len ss) (hlen : len ≤ 65536) (hcap : len ≤ cap) (hn : a = none → len = 0 ∧ cap = 0) (hm : mem ss sAG = false) :
    Calls Try.prog 13 #[.pointer (some ⟨b, 0, none⟩)] w fun e w' => AddEnd w name uid len ss m e w' := by
  obtain ⟨c0, c1, c2, c3, _⟩ := hU
  have hlt : b < w.heap.size := lt_of_cell c0
  have hal : Below w.heap.size w (w.alloc (.cells #[.string name, .string uid, .slice a len cap, .map m] 31)) := (Below.refl _ _).alloc (Nat.le_refl _) _
  obtain ⟨i0, hi, hz0, hz1, hz2⟩ := info_parts Try.info9
  go_enter Try.func13, Try.ntmps13
  go_wp2_with fail
  refine (index_any a len cap ss sAG _ (hS.below hal) hlen).mono ?_
  rintro e w' ⟨rfl, hw⟩
  subst hw
  have hS2 : ∀ o, IsStrs ((w.alloc (.cells #[.string name, .string uid, .slice a len cap, .map m] 31)).alloc o) a len ss := fun o => hS.below (hal.alloc (by simp) o)
  go_wp2_with (first
    | (at_builtin; refine wpList_append_grows _ rfl _ _ 22 rfl 9 i0 (.string ⟨#[]⟩) 1 16 Try.underlying22 hi hz0 hz1 hz2 rfl (by decide) a len len (ss.map Value.string) rfl (fun h => ⟨(hn h).1, (hn h).1⟩) (by rw [List.length_map, hS.len_eq, Nat.mul_one]) (hS2 _).olds ⟨w.heap.size + 1, 0, none⟩ 1 1 [.string sAG] rfl rfl ?_ ?_ (by omega) (by unfold maxLen; omega) (by omega) ?_)
    | go_in)
  · intro j u hu
    match j, hu with
    | 0, hu => simp at hu; subst hu; simp [Addr.add, sAG]
  · intro u hu; simp at hu; subst hu; rfl
  · intro v' w1 hown hgrow
    obtain ⟨g, cap', hv, hg1, hg2⟩ := hown.form (by omega)
    rw [hv]
    rw [hv] at hown
    clear hv v'
    have hb1 := (Below.refl (w.heap.size + 2) _).grown hgrow (by simp) (by intro k hk; cases hk)
    have ublk : w1.heap[w.heap.size]? = some (.cells #[.string name, .string uid, .slice a len cap, .map m] 31 (0, 0)) := (hb1.block _ (by omega)).trans ((Below.heap_alloc _ _ _ (by simp)).trans (heap_alloc_new w _))
    have u2 : w1.cell? ⟨w.heap.size, 2, none⟩ = some (.slice a len cap) := (hb1.cell (by simp)).trans (by simp)
    have f2 : w1.frozen? ⟨w.heap.size, 2, none⟩ = false := (hb1.frozen (by simp)).trans (by simp)
    have hbw : Below w.heap.size w w1 := ((hal.alloc (by simp) _).trans (hb1.mono (by omega)))
    have hshort : ∀ s ∈ ss ++ [sAG], s.size ≤ maxLen := by
      intro s hs
      rcases List.mem_append.1 hs with h | h
      · exact hS.short s h
      · rw [List.mem_singleton.1 h]; decide
    have HE : Hid (AddEnd w name uid len ss m (.returned (.pointer (some ⟨w.heap.size, 0, none⟩))) (w1.setCell ⟨w.heap.size, 2, none⟩ (.slice (some ⟨g, 0, none⟩) (len + 1) cap'))) := by
      have hown2 := ownsRow_setCell_below hown (a := ⟨w.heap.size, 2, none⟩) (by show w.heap.size < _; omega) (.slice (some ⟨g, 0, none⟩) (len + 1) cap')
      refine ⟨_, g, cap', rfl, Nat.le_refl _, .of_blk ?_, IsStrs.of_own (by simpa using hown2) hshort, hbw.setCell (Nat.le_refl _) _⟩
      exact (heap_setCell_same w1 w.heap.size 2 _ 31 _ ublk).trans rfl
    clear hown hgrow hb1 hg1 hg2 hS2 hal hbw hshort hS ublk
    go_wp2
    go_ret
    exact HE
end Go.Proofs.Qxb6603895a
