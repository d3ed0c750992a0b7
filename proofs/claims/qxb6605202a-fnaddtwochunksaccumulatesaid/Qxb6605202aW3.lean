import Derived.Test.Qxb6605202aW2
import Derived.Test.Qxb6605202aRaw
import Derived.Lib.FrozenHead
import Derived.RegionTactic
import Derived.LaidEqlPtr
namespace Go.Proofs.Qxb6605202a
open Go.RowKit

theorem Try.info36 : (Try.prog.info? 36).map (fun i => i.size) = some 2 := by kernel_rfl

set_option maxHeartbeats 400000 in
set_option maxRecDepth 100000 in
theorem check_fresh (T : TypeId) (o b : Nat) (cur : Array Value) (w : World) (hb : w.heap[b]? = some (.cells cur T (0, 0))) (h0 : cur[o]? = some (.pointer none)) (hlies : liesAt Try.prog Try.prog.depth T (cur.size / Try.prog.cellsOf T) o 36 1 = true) (ho : o < cur.size) :
    Calls Try.prog 26 #[.pointer (some ⟨b, o, none⟩)] w fun e w' => e = .returned (.tuple #[]) ∧ w' = w.setCell ⟨b, o, none⟩ (.pointer (some ⟨b, o, none⟩)) := by
  obtain ⟨j, hj, hjs⟩ := Option.map_eq_some_iff.1 Try.info36
  have c0 : w.cell? ⟨b, o, none⟩ = some (.pointer none) := (cell_of_row w b o cur T _ hb).trans h0
  have f0 : w.frozen? ⟨b, o, none⟩ = false := frozen_of_row w b o cur T hb
  have hsh : w.shape? b = some (T, cur.size) := by simp [World.shape?, hb]
  have hun := to_raw w b o cur T j hj (by rw [hjs]; decide) hsh ho
  have hfr := of_raw w b o cur T j hj hsh hlies
  go_enter Try.func26, Try.ntmps26
  go_wp2
  rw [run_callFunc_extern Try.func27 (by kernel_rfl) (by kernel_rfl) (by kernel_rfl) (e := Extern.AbiNoEscape.same) (by kernel_rfl)]
  rw [Lib.run_noEscape]
  simp only [Result.andThen]
  rw [Oper.upon_value]
  go_wp2
  go_end0
  exact ⟨rfl, rfl⟩

set_option maxHeartbeats 400000 in
set_option maxRecDepth 100000 in
theorem check_used (T : TypeId) (o b : Nat) (cur : Array Value) (w : World) (hb : w.heap[b]? = some (.cells cur T (0, 0))) (h0 : cur[o]? = some (.pointer (some ⟨b, o, none⟩))) :
    Calls Try.prog 26 #[.pointer (some ⟨b, o, none⟩)] w fun e w' => e = .returned (.tuple #[]) ∧ w' = w := by
  obtain ⟨j, hj, hjs⟩ := Option.map_eq_some_iff.1 Try.info36
  have c0 : w.cell? ⟨b, o, none⟩ = some (.pointer (some ⟨b, o, none⟩)) := (cell_of_row w b o cur T _ hb).trans h0
  have hnq := Lib.run_neq_ptr_same (P := Try.prog) w ⟨b, o, none⟩ Try.underlying33 hj
  go_enter Try.func26, Try.ntmps26
  go_wp2
  go_end0
  exact ⟨rfl, rfl⟩

theorem Try.info5 : (Try.prog.info? 5).map (fun i => (i.zero, i.size, i.bytes)) = some (some (.int .u8 0), 1, 1) := by kernel_rfl

/-- 'append(buf, s...)', AND WHERE THE NEW BUFFER LIES: in the old row, or in a block that is new. -/
theorem append_lies (w : World) (base : Nat) (ty : TypeId) (v : Value) (n : Nat) (xs : List Value) (hown : w.ownsRowF base 5 1 v n xs) (s : ByteArray) (h63 : n + s.size ≤ maxLen) (hbytes : n + s.size ≤ 140737488355328) (hbase : base ≤ w.heap.size) :
    ∃ v' w', (Builtin.append_ #[34, 9] ty #[v, .string s]).run Try.prog w = .ok v' w' ∧ w'.ownsRowF base 5 1 v' (n + s.size) (xs ++ Lib.strCells s) ∧ w.grownBy w' v.ownBlock ∧ (v'.ownBlock = v.ownBlock ∨ ∃ g, v'.ownBlock = some g ∧ w.heap.size ≤ g) := by
  obtain ⟨i0, hi, hz0, hz1, hz2⟩ := info_parts Try.info5
  obtain ⟨v', w', hrun, hown', hgrow, hnil⟩ := Lib.run_append_own_stringF (P := Try.prog) w base 34 9 ty 5 i0 Try.underlying34 Try.underlying9 hi hz0 hz1 hz2 v n xs hown s h63 hbytes hbase
  refine ⟨v', w', hrun, hown', hgrow, ?_⟩
  rcases hown.2 with ⟨rfl, rfl⟩ | ⟨g, cap, cur, fz, rfl, hbg, hg, hfz, hnc, hcm, hcs, htake⟩
  · obtain ⟨v2, w2, h1, h2, _, _⟩ := Lib.run_append_own_stringF (P := Try.prog) w w.heap.size 34 9 ty 5 i0 Try.underlying34 Try.underlying9 hi hz0 hz1 hz2 (.slice none 0 0) 0 xs ⟨hown.1, .inl ⟨rfl, rfl⟩⟩ s h63 hbytes (Nat.le_refl _)
    rw [hrun] at h1
    injection h1 with h1 _
    subst h1
    cases hb : v'.ownBlock with
    | none => exact .inl rfl
    | some g => exact .inr ⟨g, rfl, (h2.lt g hb).1⟩
  · by_cases hroom : n + s.size ≤ cap
    · have hcs' : cur.size = cap := by simpa using hcs
      have hr := Lib.run_append_room_stringF (P := Try.prog) w 34 9 ty 5 i0 Try.underlying34 Try.underlying9 hi hz1 g n cap cur fz hg (by simpa using hfz) s hroom (by omega)
      rw [hrun] at hr
      injection hr with hr _
      subst hr
      exact .inl rfl
    · have holds : ∀ j u, xs[j]? = some u → w.cell? ((⟨g, 0, none⟩ : Addr).add j) = some u := hown.cells (g := g) rfl
      have hxl : xs.length = n := by simpa using hown.1
      have hr := Lib.run_append_grow_string (P := Try.prog) w 34 9 ty 5 i0 (.int .u8 0) Try.underlying34 Try.underlying9 hi hz0 ⟨g, 0, none⟩ n cap xs (by rw [hz1]; simpa using hxl) holds s (by omega) (by unfold maxLen at h63; omega) (by rw [hz2]; exact growslice_fits (by omega) (by omega))
      rw [hrun] at hr
      injection hr with hr _
      subst hr
      exact .inr ⟨w.heap.size, rfl, Nat.le_refl _⟩

/-- w' is w but for block b, the block 'row', and new blocks. -/
structure Fr (w w' : World) (b : Nat) (row : Option Nat) : Prop where
  os : w'.os = w.os
  tape : w'.tape = w.tape
  output : w'.output = w.output
  size : w.heap.size ≤ w'.heap.size
  block : ∀ k, k < w.heap.size → k ≠ b → some k ≠ row → w'.heap[k]? = w.heap[k]?

theorem Fr.refl (w : World) (b : Nat) (row : Option Nat) : Fr w w b row := ⟨rfl, rfl, rfl, Nat.le_refl _, fun _ _ _ _ => rfl⟩
theorem Fr.trans {w1 w2 w3 : World} {b : Nat} {row : Option Nat} (h : Fr w1 w2 b row) (h' : Fr w2 w3 b row) : Fr w1 w3 b row :=
  ⟨h'.os.trans h.os, h'.tape.trans h.tape, h'.output.trans h.output, Nat.le_trans h.size h'.size, fun k hk h1 h2 => (h'.block k (Nat.lt_of_lt_of_le hk h.size) h1 h2).trans (h.block k hk h1 h2)⟩
theorem Fr.setCell (w : World) (b o : Nat) (u : Value) (row : Option Nat) : Fr w (w.setCell ⟨b, o, none⟩ u) b row :=
  ⟨rfl, rfl, rfl, by simp, fun k _ h1 _ => Below.heap_setCell w ⟨b, o, none⟩ u k h1⟩
theorem Fr.grown {w w' : World} {b : Nat} {row : Option Nat} (h : w.grownBy w' row) : Fr w w' b row := ⟨h.os, h.tape, h.output, h.size, fun k hk _ h2 => h.block k hk h2⟩

theorem lt_block {w : World} {b : Nat} {o : Obj} (h : w.heap[b]? = some o) : b < w.heap.size := (Array.getElem?_eq_some_iff.1 h).1

theorem check_any (T : TypeId) (o b : Nat) (cur : Array Value) (p : Value) (w : World) (hb : w.heap[b]? = some (.cells cur T (0, 0))) (h0 : cur[o]? = some p) (hp : p = .pointer none ∨ p = .pointer (some ⟨b, o, none⟩)) (hlies : liesAt Try.prog Try.prog.depth T (cur.size / Try.prog.cellsOf T) o 36 1 = true) (ho : o < cur.size) :
    Calls Try.prog 26 #[.pointer (some ⟨b, o, none⟩)] w fun e w' => e = .returned (.tuple #[]) ∧ w'.heap[b]? = some (.cells (cur.setIfInBounds o (.pointer (some ⟨b, o, none⟩))) T (0, 0)) ∧ Fr w w' b none := by
  rcases hp with rfl | rfl
  · refine (check_fresh T o b cur w hb h0 hlies ho).mono ?_
    rintro e w' ⟨rfl, rfl⟩
    exact ⟨rfl, heap_setCell_same w b o cur T _ hb, Fr.setCell w b o _ none⟩
  · refine (check_used T o b cur w hb h0).mono ?_
    rintro e w' ⟨rfl, rfl⟩
    have e : cur.setIfInBounds o (.pointer (some ⟨b, o, none⟩)) = cur := by
      apply Array.ext_getElem?
      intro i
      by_cases h : i = o
      · subst h
        rw [Array.getElem?_setIfInBounds_self_of_lt ho, h0]
      · rw [Array.getElem?_setIfInBounds_ne (Ne.symm h)]
    exact ⟨rfl, by rw [e]; exact hb, Fr.refl _ _ _⟩

def WriteEnd (T : TypeId) (o b : Nat) (cur : Array Value) (base : Nat) (v : Value) (n : Nat) (xs : List Value) (s : ByteArray) (w : World) (e : Ending) (w' : World) : Prop :=
  ∃ v', e = .returned (.tuple #[.int .i64 s.size, .nilIface]) ∧ w'.heap[b]? = some (.cells ((cur.setIfInBounds o (.pointer (some ⟨b, o, none⟩))).setIfInBounds (o + 1) v') T (0, 0)) ∧ w'.ownsRowF base 5 1 v' (n + s.size) (xs ++ Lib.strCells s) ∧
    (v'.ownBlock = v.ownBlock ∨ ∃ g, v'.ownBlock = some g ∧ w.heap.size ≤ g) ∧ v'.ownBlock ≠ some b ∧ Fr w w' b v.ownBlock

theorem ownsRowF_setCell {w : World} {base : Nat} {v : Value} {n : Nat} {xs : List Value} (h : w.ownsRowF base 5 1 v n xs) {a : Addr} (ha : v.ownBlock ≠ some a.block) (u : Value) : (w.setCell a u).ownsRowF base 5 1 v n xs :=
  h.kept (row := some a.block) ⟨rfl, rfl, rfl, by simp, fun k _ hk => Below.heap_setCell w a u k (fun e => hk (by rw [e]))⟩ (.inr ha)

/-- An 'append' whose run is known. -/
theorem wpList_append_run {P : Program} (w : World) {ops : Array Oper} {rest : List Oper} {o : Oper} {a : Act} {Q : Exit → Act → World → Prop} (hg : o.guard = none) (sl x : Operand) (t u : TypeId)
    (ho : o.op = Op.call { callee := Callee.builtin Builtin.append, args := #[sl, x], argTypes := #[t, u] }) (v s : Value) (hs : a.eval sl = v) (hx : a.eval x = s) (v' : Value) (w' : World) (hrun : (Builtin.append_ #[t, u] o.type #[v, s]).run P w = .ok v' w')
    (hK : wpList P ops Q rest (a.put o.dst v') w') : wpList P ops Q (o :: rest) a w := by
  refine wpList_plain hg fun K hK' => ?_
  unfold Oper.wp
  simp [execOp, ho, resolve, invoke, builtin, hs, hx, hrun, Result.andThen]
  exact hK' _ _ hK

set_option maxHeartbeats 800000 in
set_option maxRecDepth 100000 in
theorem write_any (T : TypeId) (o b : Nat) (cur : Array Value) (base : Nat) (p v : Value) (n : Nat) (xs : List Value) (s : ByteArray) (w : World) (hb : w.heap[b]? = some (.cells cur T (0, 0))) (h0 : cur[o]? = some p) (hp : p = .pointer none ∨ p = .pointer (some ⟨b, o, none⟩))
    (hlies : liesAt Try.prog Try.prog.depth T (cur.size / Try.prog.cellsOf T) o 36 1 = true) (h1 : cur[o + 1]? = some v) (hown : w.ownsRowF base 5 1 v n xs) (hne : v.ownBlock ≠ some b) (hbase : base ≤ w.heap.size) (hlen : n + s.size ≤ 140737488355328) :
    Calls Try.prog 23 #[.pointer (some ⟨b, o, none⟩), .string s] w fun e w' => WriteEnd T o b cur base v n xs s w e w' := by
  have ho : o + 1 < cur.size := (Array.getElem?_eq_some_iff.1 h1).1
  go_enter Try.func23, Try.ntmps23
  go_wp2_with fail
  refine (check_any T o b cur p w hb h0 hp hlies (by omega)).mono ?_
  rintro e w1 ⟨rfl, hb1, hf1⟩
  have hown1 : w1.ownsRowF base 5 1 v n xs := hown.kept (row := some b) ⟨hf1.os, hf1.tape, hf1.output, hf1.size, fun k hk h => hf1.block k hk (fun e => h (by rw [e])) (by simp)⟩ (.inr hne)
  have c1 : w1.cell? ⟨b, o + 1, none⟩ = some v := (cell_of_row w1 b (o + 1) _ T _ hb1).trans (by rw [Array.getElem?_setIfInBounds_ne (by omega)]; exact h1)
  obtain ⟨v', w2, hrun, hown2, hgr, hlie⟩ := append_lies w1 base 34 v n xs hown1 s (by unfold maxLen; omega) hlen (Nat.le_trans hbase hf1.size)
  have hb2 : w2.heap[b]? = some (.cells (cur.setIfInBounds o (.pointer (some ⟨b, o, none⟩))) T (0, 0)) := (hgr.block b (lt_block hb1) (fun e => hne e.symm)).trans hb1
  have d1 : w2.cell? ⟨b, o + 1, none⟩ = some v := (cell_of_row w2 b (o + 1) _ T _ hb2).trans (by rw [Array.getElem?_setIfInBounds_ne (by omega)]; exact h1)
  have f1 : w2.frozen? ⟨b, o + 1, none⟩ = false := frozen_of_row w2 b (o + 1) _ T hb2
  have hne' : v'.ownBlock ≠ some b := by
    rcases hlie with h | ⟨g, h, hg⟩
    · rw [h]; exact hne
    · rw [h]; intro e; have := lt_block hb1; have e' := Option.some.inj e; omega
  obtain ⟨ao, n', c', hv'⟩ : ∃ ao n' c', v' = .slice ao n' c' := by
    rcases hown2.2 with ⟨hv, _⟩ | ⟨g, cap, cur', fz, hv, _⟩
    · exact ⟨_, _, _, hv⟩
    · exact ⟨_, _, _, hv⟩
  have HE : Hid (WriteEnd T o b cur base v n xs s w (.returned (.tuple #[.int .i64 s.size, .nilIface])) (w2.setCell ⟨b, o + 1, none⟩ v')) := by
    refine ⟨v', rfl, heap_setCell_same w2 b (o + 1) _ T _ hb2, ownsRowF_setCell hown2 hne' _, ?_, hne', ?_⟩
    · rcases hlie with h | ⟨g, h, hg⟩
      · exact .inl h
      · exact .inr ⟨g, h, Nat.le_trans hf1.size hg⟩
    · exact ((⟨hf1.os, hf1.tape, hf1.output, hf1.size, fun k hk h1 _ => hf1.block k hk h1 (by simp)⟩ : Fr w w1 b v.ownBlock).trans (Fr.grown hgr)).trans (Fr.setCell w2 b (o + 1) v' v.ownBlock)
  subst hv'
  clear hown2 hgr hlie hb2 hne' hown1 hf1 hb1 hown hb
  go_wp2_with (at_builtin; refine wpList_append_run _ rfl _ _ 34 9 rfl _ _ rfl rfl _ _ hrun ?_)
  go_ret2
  exact HE
end Go.Proofs.Qxb6605202a
