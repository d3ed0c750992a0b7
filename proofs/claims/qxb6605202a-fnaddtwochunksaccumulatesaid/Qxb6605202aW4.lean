import Derived.Test.Qxb6605202aW3
namespace Go.Proofs.Qxb6605202a
open Go.RowKit

def StringEnd (b : Nat) (base : Nat) (v : Value) (l : List UInt8) (w : World) (e : Ending) (w' : World) : Prop :=
  e = .returned (.string ⟨l.toArray⟩) ∧ w'.heap[b]? = w.heap[b]? ∧ w'.ownsRowF base 5 1 v l.length (Lib.byteCells l) ∧ Fr w w' b v.ownBlock

theorem Try.cells5 : Try.prog.cellsOf 5 = 1 := by kernel_rfl


set_option maxHeartbeats 800000 in
set_option maxRecDepth 100000 in
theorem string_nil (T : TypeId) (o b : Nat) (cur : Array Value) (base : Nat) (w : World) (hb : w.heap[b]? = some (.cells cur T (0, 0))) (h1 : cur[o + 1]? = some (.slice none 0 0)) :
    Calls Try.prog 25 #[.pointer (some ⟨b, o, none⟩)] w fun e w' => StringEnd b base (.slice none 0 0) [] w e w' := by
  have c1 : w.cell? ⟨b, o + 1, none⟩ = some (.slice none 0 0) := (cell_of_row w b (o + 1) cur T _ hb).trans h1
  have hus := fun (p : Option Addr) (W : World) => ustr_none (P := Try.prog) W 81 3 9 p
  simp only [ustr] at hus
  have hSD : ∀ W, (sdat.1 #[34] 81 #[.slice none 0 0]).run Try.prog W = .ok (.pointer none) W := fun _ => rfl
  simp only [sdat] at hSD
  have HE : Hid (StringEnd b base (.slice none 0 0) [] w (.returned (.string ⟨#[]⟩)) w.drew) := ⟨rfl, rfl, World.ownsRowF_nil _ _ _ _, ⟨rfl, rfl, rfl, Nat.le_refl _, fun _ _ _ _ => rfl⟩⟩
  clear hb h1
  go_enter Try.func25, Try.ntmps25
  go_wp2
  go_region
  all_goals (go_wp2; go_ret; exact HE)

set_option maxHeartbeats 800000 in
set_option maxRecDepth 100000 in
theorem string_room (T : TypeId) (o b : Nat) (cur : Array Value) (base g cap : Nat) (w : World) (hb : w.heap[b]? = some (.cells cur T (0, 0))) (h1 : cur[o + 1]? = some (.slice (some ⟨g, 0, none⟩) 0 cap)) (hc : cap ≠ 0) (hown : w.ownsRowF base 5 1 (.slice (some ⟨g, 0, none⟩) 0 cap) 0 []) :
    Calls Try.prog 25 #[.pointer (some ⟨b, o, none⟩)] w fun e w' => StringEnd b base (.slice (some ⟨g, 0, none⟩) 0 cap) [] w e w' := by
  have c1 : w.cell? ⟨b, o + 1, none⟩ = some (.slice (some ⟨g, 0, none⟩) 0 cap) := (cell_of_row w b (o + 1) cur T _ hb).trans h1
  have hus := fun (p : Option Addr) (W : World) => ustr_none (P := Try.prog) W 81 3 9 p
  simp only [ustr] at hus
  have hSD : ∀ W, (sdat.1 #[34] 81 #[.slice (some ⟨g, 0, none⟩) 0 cap]).run Try.prog W = .ok (.pointer (some ⟨g, 0, none⟩)) W := fun W => sdat_row W _ _ _ _ _ hc
  simp only [sdat] at hSD
  have HE : Hid (StringEnd b base (.slice (some ⟨g, 0, none⟩) 0 cap) [] w (.returned (.string ⟨#[]⟩)) w.drew) := ⟨rfl, rfl, hown, ⟨rfl, rfl, rfl, Nat.le_refl _, fun _ _ _ _ => rfl⟩⟩
  clear hb h1 hc hown
  go_enter Try.func25, Try.ntmps25
  go_wp2
  go_region
  all_goals (go_wp2; go_ret; exact HE)

set_option maxHeartbeats 800000 in
set_option maxRecDepth 100000 in
theorem string_noroom (T : TypeId) (o b : Nat) (cur cur' : Array Value) (fz : Nat × Nat) (base g : Nat) (w : World) (hb : w.heap[b]? = some (.cells cur T (0, 0))) (h1 : cur[o + 1]? = some (.slice (some ⟨g, 0, none⟩) 0 0)) (hg : w.heap[g]? = some (.cells cur' 5 fz)) (hown : w.ownsRowF base 5 1 (.slice (some ⟨g, 0, none⟩) 0 0) 0 []) :
    Calls Try.prog 25 #[.pointer (some ⟨b, o, none⟩)] w fun e w' => StringEnd b base (.slice (some ⟨g, 0, none⟩) 0 0) [] w e w' := by
  have hlt := lt_block hb
  have c1 : w.cell? ⟨b, o + 1, none⟩ = some (.slice (some ⟨g, 0, none⟩) 0 0) := (cell_of_row w b (o + 1) cur T _ hb).trans h1
  have hus := fun (p : Option Addr) (W : World) => ustr_none (P := Try.prog) W 81 3 9 p
  simp only [ustr] at hus
  have hSD : (sdat.1 #[34] 81 #[.slice (some ⟨g, 0, none⟩) 0 0]).run Try.prog w.drew = .ok (.pointer (some ⟨w.drew.heap.size, 0, none⟩)) (w.drew.alloc (.view ⟨g, 0, none⟩ 5)) :=
    sdat_zero w.drew _ _ 5 Try.underlying81 ⟨g, 0, none⟩ 0 (5, cur'.size) (by have hg' : w.drew.heap[g]? = some (.cells cur' 5 fz) := hg; simp [World.shape?, hg'])
  simp only [sdat] at hSD
  have c2 : (w.alloc (.view ⟨g, 0, none⟩ 5)).cell? ⟨b, o + 1, none⟩ = some (.slice (some ⟨g, 0, none⟩) 0 0) := (World.cell?_of_block (w := w) (Below.heap_alloc w _ b hlt)).trans c1
  have HE : Hid (StringEnd b base (.slice (some ⟨g, 0, none⟩) 0 0) [] w (.returned (.string ⟨#[]⟩)) (w.drew.alloc (.view ⟨g, 0, none⟩ 5))) :=
    ⟨rfl, Below.heap_alloc w.drew _ b hlt, World.ownsRowF.kept (w := w.drew) hown (World.grownBy_alloc w.drew _ none) (.inr (by simp [Value.ownBlock])), ⟨rfl, rfl, rfl, by simp, fun k hk _ _ => Below.heap_alloc w.drew _ k hk⟩⟩
  clear hb h1 hown hg
  go_enter Try.func25, Try.ntmps25
  go_wp2
  go_region
  all_goals (go_wp2; go_ret; exact HE)

theorem freeze_other {w : World} {g n k : Nat} (h : k ≠ g) : (w.freeze ⟨g, 0, none⟩ n).heap[k]? = w.heap[k]? := by
  unfold World.freeze
  split
  · rfl
  · simp only [Array.getElem?_modify]
    rw [if_neg (by omega)]

theorem freeze_owns {w : World} {base g n cap : Nat} {xs : List Value} (hown : w.ownsRowF base 5 1 (.slice (some ⟨g, 0, none⟩) n cap) n xs) : (w.freeze ⟨g, 0, none⟩ n).ownsRowF base 5 1 (.slice (some ⟨g, 0, none⟩) n cap) n xs := by
  unfold World.freeze
  split
  · exact hown
  · refine ⟨hown.1, ?_⟩
    rcases hown.2 with ⟨hv, _⟩ | ⟨g', cap', cur, fz, hv, hbg, hg, hfz, rest⟩
    · cases hv
    · injection hv with ha _ hcap
      injection ha with ha
      injection ha with hgg _ _
      subst hgg
      subst hcap
      obtain ⟨lo, hi⟩ := fz
      refine .inr ⟨g, _, cur, (if lo == hi then (0, 0 + n) else (min lo 0, max hi (0 + n))), rfl, hbg, ?_, ?_, rest⟩
      · simp [Array.getElem?_modify, hg]
      · simp only at hfz
        split <;> simp <;> omega

set_option maxHeartbeats 800000 in
set_option maxRecDepth 100000 in
theorem string_some (T : TypeId) (o b : Nat) (cur : Array Value) (base g cap : Nat) (l : List UInt8) (w : World) (hb : w.heap[b]? = some (.cells cur T (0, 0))) (h1 : cur[o + 1]? = some (.slice (some ⟨g, 0, none⟩) l.length cap)) (h0 : l ≠ []) (hown : w.ownsRowF base 5 1 (.slice (some ⟨g, 0, none⟩) l.length cap) l.length (Lib.byteCells l)) (hne : g ≠ b) :
    Calls Try.prog 25 #[.pointer (some ⟨b, o, none⟩)] w fun e w' => StringEnd b base (.slice (some ⟨g, 0, none⟩) l.length cap) l w e w' := by
  have hl0 : l.length ≠ 0 := by simpa using h0
  obtain ⟨cur', fz, hg, hnc, hcm, hcs⟩ : ∃ cur' fz, w.heap[g]? = some (.cells cur' 5 fz) ∧ l.length ≤ cap ∧ cap ≤ maxLen ∧ cur'.size = cap * 1 := by
    rcases hown.2 with ⟨hv, _⟩ | ⟨g', cap', cur', fz, hv, _, hg, _, hnc, hcm, hcs, _⟩
    · cases hv
    · injection hv with ha _ hcap
      injection ha with ha
      injection ha with hgg _ _
      subst hgg
      subst hcap
      exact ⟨cur', fz, hg, hnc, hcm, hcs⟩
  have c1 : w.cell? ⟨b, o + 1, none⟩ = some (.slice (some ⟨g, 0, none⟩) l.length cap) := (cell_of_row w b (o + 1) cur T _ hb).trans h1
  have hSD : ∀ W, (sdat.1 #[34] 81 #[.slice (some ⟨g, 0, none⟩) l.length cap]).run Try.prog W = .ok (.pointer (some ⟨g, 0, none⟩)) W := fun W => sdat_row W _ _ _ _ _ (by omega)
  simp only [sdat] at hSD
  have hUS : (ustr.1 #[81, 3] 9 #[.pointer (some ⟨g, 0, none⟩), .int .i64 l.length]).run Try.prog w.drew = .ok (.string ⟨l.toArray⟩) (w.drew.freeze ⟨g, 0, none⟩ l.length) := by
    refine ustr_row w.drew 81 3 9 5 Try.underlying81 Try.cells5 g cur'.size (by have hg' : w.drew.heap[g]? = some (.cells cur' 5 fz) := hg; simp [World.shape?, hg']) l h0 (by omega) (by unfold maxLen at hcm; omega) ?_
    intro j x hx
    exact hown.cells (g := g) rfl j (.int .u8 x.toNat) (by simp [Lib.byteCells, hx])
  simp only [ustr] at hUS
  have HE : Hid (StringEnd b base (.slice (some ⟨g, 0, none⟩) l.length cap) l w (.returned (.string ⟨l.toArray⟩)) (w.drew.freeze ⟨g, 0, none⟩ l.length)) := by
    refine ⟨rfl, freeze_other (w := w.drew) hne.symm, freeze_owns (w := w.drew) hown, ?_⟩
    refine ⟨by unfold World.freeze; split <;> rfl, by unfold World.freeze; split <;> rfl, by unfold World.freeze; split <;> rfl, by unfold World.freeze; split <;> simp, fun k _ _ hk => freeze_other (w := w.drew) (fun e => hk (by rw [e]; rfl))⟩
  clear hb h1 hown hg hnc hcm hcs h0
  go_enter Try.func25, Try.ntmps25
  go_wp2
  go_region
  all_goals (go_wp2; go_ret; exact HE)

/-- (*strings.Builder).String, whatever it holds, wherever it lies. -/
theorem string_any (T : TypeId) (o b : Nat) (cur : Array Value) (base : Nat) (v : Value) (l : List UInt8) (w : World) (hb : w.heap[b]? = some (.cells cur T (0, 0))) (h1 : cur[o + 1]? = some v) (hown : w.ownsRowF base 5 1 v l.length (Lib.byteCells l)) (hne : v.ownBlock ≠ some b) :
    Calls Try.prog 25 #[.pointer (some ⟨b, o, none⟩)] w fun e w' => StringEnd b base v l w e w' := by
  rcases hown.2 with ⟨rfl, hl⟩ | ⟨g, cap, cur', fz, rfl, _, hg, _⟩
  · obtain rfl := List.eq_nil_of_length_eq_zero hl
    exact string_nil T o b cur base w hb h1
  · by_cases h0 : l = []
    · subst h0
      by_cases hc : cap = 0
      · subst hc
        exact string_noroom T o b cur cur' fz base g w hb h1 hg hown
      · exact string_room T o b cur base g cap w hb h1 hc hown
    · exact string_some T o b cur base g cap l w hb h1 h0 hown (fun e => hne (by rw [e]; rfl))

/-- setOnce: the string in a cell. -/
theorem setOnce_any (T : TypeId) (o b : Nat) (cur : Array Value) (x s : ByteArray) (w : World) (hb : w.heap[b]? = some (.cells cur T (0, 0))) (h0 : cur[o]? = some (.string x)) :
    Calls Try.prog 24 #[.pointer (some ⟨b, o, none⟩), .string s] w fun e w' => e = .returned (.tuple #[]) ∧ w'.heap[b]? = some (.cells (cur.setIfInBounds o (.string (set1 x s))) T (0, 0)) ∧ Fr w w' b none := by
  have c0 : w.cell? ⟨b, o, none⟩ = some (.string x) := (cell_of_row w b o cur T _ hb).trans h0
  have f0 : w.frozen? ⟨b, o, none⟩ = false := frozen_of_row w b o cur T hb
  have ho : o < cur.size := (Array.getElem?_eq_some_iff.1 h0).1
  cases hx : x.toList.isEmpty with
  | true =>
    go_enter Try.func24, Try.ntmps24
    go_wp2
    go_end0
    exact ⟨rfl, by rw [show set1 x s = s by simp [set1, hx]]; exact heap_setCell_same w b o cur T _ hb, Fr.setCell w b o _ none⟩
  | false =>
    have e : cur.setIfInBounds o (.string (set1 x s)) = cur := by
      rw [show set1 x s = x by simp [set1, hx]]
      apply Array.ext_getElem?
      intro i
      by_cases h : i = o
      · subst h
        rw [Array.getElem?_setIfInBounds_self_of_lt ho, h0]
      · rw [Array.getElem?_setIfInBounds_ne (Ne.symm h)]
    rw [e]
    go_enter Try.func24, Try.ntmps24
    go_wp2
    go_end0
    exact ⟨rfl, hb, Fr.refl _ _ _⟩
end Go.Proofs.Qxb6605202a
