import Derived.Test.Qxb6605202aAdd3
namespace Go.Proofs.Qxb6605202a
open Go.RowKit

attribute [local go_sem ↓] Go.wp_at_zero Go.wp_at_succ

theorem no_world {w : World} (pr co : Int) {tag : Nat → Option Nat} (hsup : ∀ j, w.heap.size ≤ j → tag j = none) {W : World} (hW : W.heap[w.heap.size + 1]? = some (.cells #[.int .i64 pr, .int .i64 co] 54 (0, 0))) :
    ChunkUse W tag (some (pr, co)) (some ⟨w.heap.size + 1, 0, none⟩) := .inr ⟨w.heap.size + 1, pr, co, rfl, rfl, hsup _ (by omega), hW⟩

set_option maxHeartbeats 4000000 in
set_option maxRecDepth 100000 in
theorem zzadd_no (base d : Nat) (text : List UInt8) (fin : ByteArray) (us : Option (Int × Int)) (fs : List Frag) (tag : Nat → Option Nat) (p v iv : Value) (up : Option Addr) (m : Option Nat) (blk : Nat → Nat) (w : World)
    (D : DraftAt base w d text fin us fs tag p v iv up m blk) (content finish : ByteArray) (x4 x5 x6 x7 x8 x9 : Value) (hu : Bool) (pr co : Int) :
    Calls Try.prog 10 #[.pointer (some ⟨d, 0, none⟩), .bool false, .string content, .string finish, x4, x5, x6, x7, x8, x9, .bool hu, .int .i64 pr, .int .i64 co] w fun e w' =>
      AddEnd base d text fin ((useOf hu pr co).or us) fs tag w e w' := by
  have hdlt := lt_block D.d0
  have hb1 : Below w.heap.size w (w.alloc (.cells #[.slice none 0 0, .pointer none, .pointer none] 45)) := (Below.refl _ _).alloc (Nat.le_refl _) _
  cases hu with
  | true =>
    go_enter Try.func10, Try.ntmps10
    go_wp2_with fail
    have hb2 : Below w.heap.size w ((w.alloc (.cells #[.slice none 0 0, .pointer (some ⟨w.heap.size + 1, 0, none⟩), .pointer none] 45)).alloc (.cells #[.int .i64 pr, .int .i64 co] 54)) := ((Below.refl _ _).alloc (Nat.le_refl _) _).alloc (size_alloc_le _ _) _
    have hu : ((w.alloc (.cells #[.slice none 0 0, .pointer (some ⟨w.heap.size + 1, 0, none⟩), .pointer none] 45)).alloc (.cells #[.int .i64 pr, .int .i64 co] 54)).heap[w.heap.size + 1]? = some (.cells #[.int .i64 pr, .int .i64 co] 54 (0, 0)) := by
      have := heap_alloc_new (w.alloc (.cells #[.slice none 0 0, .pointer (some ⟨w.heap.size + 1, 0, none⟩), .pointer none] 45)) (.cells #[.int .i64 pr, .int .i64 co] 54)
      rwa [show (w.alloc (.cells #[.slice none 0 0, .pointer (some ⟨w.heap.size + 1, 0, none⟩), .pointer none] 45)).heap.size = w.heap.size + 1 by simp] at this
    refine (add_none base d text fin us fs tag p v iv up m blk _ (D.below hb2) (some (pr, co)) _ (no_world pr co D.sup hu)).mono ?_
    rintro e w9 ⟨rfl, t', p', v', iv', up', m', blk', D', S'⟩
    go_wp2_with fail
    go_end0
    exact ⟨rfl, t', p', v', iv', up', m', blk', D', (Step.of_below hb2).trans S'⟩
  | false =>
    go_enter Try.func10, Try.ntmps10
    go_wp2_with fail
    refine (add_none base d text fin us fs tag p v iv up m blk _ (D.below hb1) none none (.inl ⟨rfl, rfl⟩)).mono ?_
    rintro e w9 ⟨rfl, t', p', v', iv', up', m', blk', D', S'⟩
    go_wp2_with fail
    go_end0
    exact ⟨rfl, t', p', v', iv', up', m', blk', D', (Step.of_below hb1).trans S'⟩

/-- The empty draft. -/
theorem draft_new (w : World) : DraftAt w.heap.size (w.alloc (.cells #[.pointer none, .slice none 0 0, .string E, .pointer none, .map none, .slice none 0 0] 40)) w.heap.size [] E none [] (fun j => if j = w.heap.size then some 0 else none) (.pointer none) (.slice none 0 0) (.slice none 0 0) none none (fun _ => 0) where
  low := fun j hj => if_neg (by omega)
  sup := fun j hj => if_neg (by have : (w.alloc (.cells #[.pointer none, .slice none 0 0, .string E, .pointer none, .map none, .slice none 0 0] 40)).heap.size = w.heap.size + 1 := by simp
                                omega)
  bsz := size_alloc_le _ _
  d0 := heap_alloc_new w _
  dt := if_pos rfl
  self := .inl rfl
  txt := World.ownsRowF_nil _ _ _ _
  txtT := fun g hg => by cases hg
  idx := World.ownsRow_nil _ _ _ _
  idxT := fun g hg => by cases hg
  mp := .inl ⟨rfl, rfl⟩
  use := .inl ⟨rfl, rfl⟩
  calls := fun i k h => by simp [firsts] at h

def NewEnd (w : World) (e : Ending) (w' : World) : Prop := e = .returned (.pointer (some ⟨w.heap.size, 0, none⟩)) ∧ w' = w.alloc (.cells #[.pointer none, .slice none 0 0, .string E, .pointer none, .map none, .slice none 0 0] 40)

theorem new_any (w : World) : Calls Try.prog 9 #[] w fun e w' => NewEnd w e w' := by
  go_enter Try.func9, Try.ntmps9
  go_wp2
  go_ret
  exact ⟨rfl, rfl⟩
end Go.Proofs.Qxb6605202a
