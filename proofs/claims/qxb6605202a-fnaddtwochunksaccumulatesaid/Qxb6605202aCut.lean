import Derived.Test.Qxb6605202aTop0
namespace Go.Proofs.Qxb6605202a
open Go.RowKit

/-- Where 's[cut:]' starts. -/
def hiA (a : Option Addr) (n cut : Nat) : Option Addr := if n = cut then a else a.map (·.add cut)

theorem IsInts.take {k : IntKind} {w : World} {a : Option Addr} {n cut : Nat} {zs : List Int} (h : IsInts k w a n zs) (hc : cut ≤ n) : IsInts k w a cut (zs.take cut) := by
  refine ⟨by rw [List.length_take, h.len_eq]; omega, fun h0 => ?_, fun z hz => h.wf z (List.mem_of_mem_take hz)⟩
  obtain ⟨b, off, e, hlt, hcell⟩ := h.at_ (by omega)
  refine ⟨b, off, e, hlt, fun j hj => (hcell j (by omega)).trans ?_⟩
  rw [List.getD_eq_getElem?_getD, List.getD_eq_getElem?_getD, List.getElem?_take_of_lt hj]

theorem IsInts.drop {k : IntKind} {w : World} {a : Option Addr} {n cut : Nat} {zs : List Int} (h : IsInts k w a n zs) (hc : cut ≤ n) : IsInts k w (hiA a n cut) (n - cut) (zs.drop cut) := by
  refine ⟨by rw [List.length_drop, h.len_eq], fun h0 => ?_, fun z hz => h.wf z (List.mem_of_mem_drop hz)⟩
  obtain ⟨b, off, e, hlt, hcell⟩ := h.at_ (by omega)
  refine ⟨b, off + cut, by subst e; simp [hiA, Addr.add, show ¬ n = cut by omega], hlt, fun j hj => ?_⟩
  rw [Nat.add_assoc]
  refine (hcell (cut + j) (by omega)).trans ?_
  rw [List.getD_eq_getElem?_getD, List.getD_eq_getElem?_getD, List.getElem?_drop]

theorem IsStrs.take {w : World} {a : Option Addr} {n cut : Nat} {ss : List ByteArray} (h : IsStrs w a n ss) (hc : cut ≤ n) : IsStrs w a cut (ss.take cut) := by
  refine ⟨by rw [List.length_take, h.len_eq]; omega, fun h0 => ?_, fun z hz => h.short z (List.mem_of_mem_take hz)⟩
  obtain ⟨b, off, e, hlt, hcell⟩ := h.at_ (by omega)
  refine ⟨b, off, e, hlt, fun j hj => (hcell j (by omega)).trans ?_⟩
  rw [List.getD_eq_getElem?_getD, List.getD_eq_getElem?_getD, List.getElem?_take_of_lt hj]

theorem IsStrs.drop {w : World} {a : Option Addr} {n cut : Nat} {ss : List ByteArray} (h : IsStrs w a n ss) (hc : cut ≤ n) : IsStrs w (hiA a n cut) (n - cut) (ss.drop cut) := by
  refine ⟨by rw [List.length_drop, h.len_eq], fun h0 => ?_, fun z hz => h.short z (List.mem_of_mem_drop hz)⟩
  obtain ⟨b, off, e, hlt, hcell⟩ := h.at_ (by omega)
  refine ⟨b, off + cut, by subst e; simp [hiA, Addr.add, show ¬ n = cut by omega], hlt, fun j hj => ?_⟩
  rw [Nat.add_assoc]
  refine (hcell (cut + j) (by omega)).trans ?_
  rw [List.getD_eq_getElem?_getD, List.getD_eq_getElem?_getD, List.getElem?_drop]

variable {zs : List Int} {a b c r : List ByteArray} {n cut : Nat}

theorem getD_take {α : Type} (l : List α) (x : α) {j cut : Nat} (h : j < cut) : (l.take cut).getD j x = l.getD j x := by
  rw [List.getD_eq_getElem?_getD, List.getD_eq_getElem?_getD, List.getElem?_take_of_lt h]
theorem getD_drop {α : Type} (l : List α) (x : α) (j cut : Nat) : (l.drop cut).getD j x = l.getD (cut + j) x := by
  rw [List.getD_eq_getElem?_getD, List.getD_eq_getElem?_getD, List.getElem?_drop]

theorem fr_cut (hc : cut ≤ n) : fr (zs.take cut) (a.take cut) (b.take cut) (c.take cut) (r.take cut) cut = (fr zs a b c r n).take cut := by
  rw [fr_take hc]
  apply List.ext_getElem?
  intro j
  by_cases h : j < cut
  · rw [fr_at h, fr_at h, getD_take _ _ h, getD_take _ _ h, getD_take _ _ h, getD_take _ _ h, getD_take _ _ h]
  · rw [List.getElem?_eq_none (by rw [fr_length]; omega), List.getElem?_eq_none (by rw [fr_length]; omega)]

theorem fr_rest (j : Nat) (hj : j < n - cut) : ((fr zs a b c r n).drop cut)[j]? = some ⟨(zs.drop cut).getD j 0, (a.drop cut).getD j ByteArray.empty, (b.drop cut).getD j ByteArray.empty, (c.drop cut).getD j ByteArray.empty, (r.drop cut).getD j ByteArray.empty⟩ := by
  rw [List.getElem?_drop, fr_at (by omega), getD_drop, getD_drop, getD_drop, getD_drop, getD_drop]

theorem cat_part {whole : List Frag} (h : ∀ k, (catOf k whole).length ≤ 1099511627776) (cut : Nat) (k : Int) : (catOf k (whole.take cut)).length ≤ 1099511627776 := by
  have h1 := cat_le k (whole.take cut) (whole.drop cut)
  rw [List.take_append_drop] at h1
  exact Nat.le_trans h1 (h k)

theorem run_to {P : Program} {t e : TypeId} (hu : P.underlying t = some (.slice e)) (hsz : ∀ w, (sizeOf e).run P w = .ok 1 w) (a : Option Addr) {n cut : Nat} (hc : cut ≤ n) (w : World) :
    (Instr.slice t (.slice a n n) none (some (.int .i64 cut)) none).run P w = .ok (.slice a cut n) w := by
  have h1 : P.elem t = e := by simp [Program.elem, hu]
  rw [run_slice_h w t a n n (by rw [h1]; exact hu) .i64 cut (by omega) (by omega), h1, hsz]
  cases a <;> simp [Result.andThen, sliced, Addr.add]

theorem run_from {P : Program} {t e : TypeId} (hu : P.underlying t = some (.slice e)) (hsz : ∀ w, (sizeOf e).run P w = .ok 1 w) (a : Option Addr) {n cut : Nat} (hc : cut ≤ n) (w : World) :
    (Instr.slice t (.slice a n n) (some (.int .i64 cut)) none none).run P w = .ok (.slice (hiA a n cut) (n - cut) (n - cut)) w := by
  have h1 : P.elem t = e := by simp [Program.elem, hu]
  rw [run_slice_l w t a n n (by rw [h1]; exact hu) .i64 cut (by omega) (by omega), h1, hsz]
  simp [Result.andThen, sliced, hiA]

theorem Has.drew {base d : Nat} {w00 w : World} {text : List UInt8} {fin : ByteArray} {us : Option (Int × Int)} {fs : List Frag} (H : Has base w00 w d text fin us fs) : Has base w00 w.drew d text fin us fs := by
  obtain ⟨hb, hs, tag, p, v, iv, up, m, blk, D⟩ := H
  exact ⟨hb.drew, hs, tag, p, v, iv, up, m, blk, D.keep (w' := w.drew) (Nat.le_refl _) (fun _ _ _ => rfl)⟩
end Go.Proofs.Qxb6605202a
