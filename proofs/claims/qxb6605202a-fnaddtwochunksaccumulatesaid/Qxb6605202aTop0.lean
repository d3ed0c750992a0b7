import Derived.Test.Qxb6605202aAdd4
import Derived.Test.Qxb6605202aSame
import Derived.Test.Qxb6605202aW1b
namespace Go.Proofs.Qxb6605202a
open Go.RowKit

theorem bnd_firsts {whole fs news : List Frag} (hw : fs ++ news = whole) (hl : whole.length ≤ 65536) (j : Nat) : (firsts (fs ++ news.take j)).length ≤ 1099511627776 := by
  have h1 := firsts_length_le (fs ++ news.take j)
  have h2 : (fs ++ news.take j).length ≤ whole.length := by rw [← hw, List.length_append, List.length_append, List.length_take]; omega
  omega

theorem bnd_cat {whole fs news : List Frag} (hw : fs ++ news = whole) (hc : ∀ k, (catOf k whole).length ≤ 1099511627776) (j : Nat) (f : Frag) (hf : news[j]? = some f) : (catOf f.k (fs ++ news.take j)).length + f.ar.size ≤ 1099511627776 := by
  have e1 : (fs ++ news.take j ++ [f]) ++ news.drop (j + 1) = whole := by
    obtain ⟨hl, e⟩ := List.getElem?_eq_some_iff.1 hf
    rw [← hw, List.append_assoc, List.append_assoc]
    congr 1
    rw [List.singleton_append, ← e, ← List.drop_eq_getElem_cons hl, List.take_append_drop]
  have h1 := cat_le f.k (fs ++ news.take j ++ [f]) (news.drop (j + 1))
  rw [e1, catOf_snoc, if_pos rfl, List.length_append] at h1
  have h2 := hc f.k
  have h3 : f.ar.data.toList.length = f.ar.size := by rw [Array.length_toList]; rfl
  omega

theorem cat_bound {zs : List Int} {a b c r : List ByteArray} {n : Nat} (hr : r.length = n) (ht : tot r ≤ 1048576) (k : Int) : (catOf k (fr zs a b c r n)).length ≤ 1099511627776 := by
  have h1 := cat_tot k zs a b c r n (by omega)
  rw [List.take_of_length_le (by omega)] at h1
  omega


/-- The draft stands as said, above base; what lay below base stands. -/
def Has (base : Nat) (w00 : World) (w : World) (d : Nat) (text : List UInt8) (fin : ByteArray) (us : Option (Int × Int)) (fs : List Frag) : Prop :=
  Below w00.heap.size w00 w ∧ w00.heap.size ≤ base ∧ ∃ tag p v iv up m blk, DraftAt base w d text fin us fs tag p v iv up m blk

theorem Has.new (w : World) : Has w.heap.size w (w.alloc (.cells #[.pointer none, .slice none 0 0, .string E, .pointer none, .map none, .slice none 0 0] 40)) w.heap.size [] E none [] :=
  ⟨(Below.refl _ _).alloc (Nat.le_refl _) _, Nat.le_refl _, _, _, _, _, _, _, _, draft_new w⟩

/-- One chunk, with a choice. -/
theorem Has.add {base d : Nat} {w00 w : World} {text : List UInt8} {fin : ByteArray} {us : Option (Int × Int)} {fs : List Frag} (H : Has base w00 w d text fin us fs) (content finish : ByteArray) (a4 a5 a6 a7 a8 a9 : Option Addr) (tl n c4 c5 c6 c7 c8 c9 : Nat) (zs : List Int) (s5 s6 s7 s8 s9 : List ByteArray) (news whole : List Frag) (hu : Bool) (pr co : Int)
    (h4 : IsInts .i64 w00 a4 tl zs) (h5 : IsStrs w00 a5 tl s5) (h6 : IsStrs w00 a6 tl s6) (h7 : IsStrs w00 a7 tl s7) (h8 : IsStrs w00 a8 tl s8) (h9 : IsStrs w00 a9 n s9) (htl : tl ≤ 65536) (hn : n ≤ 65536)
    (hlen : news.length = tl) (hnews : ∀ j, j < tl → news[j]? = some ⟨zs.getD j 0, s5.getD j ByteArray.empty, s6.getD j ByteArray.empty, s7.getD j ByteArray.empty, s8.getD j ByteArray.empty⟩)
    (hsz : text.length + content.size ≤ 1099511627776) (hw : fs ++ news = whole) (hwl : whole.length ≤ 65536) (hwc : ∀ k, (catOf k whole).length ≤ 1099511627776) :
    Calls Try.prog 10 #[.pointer (some ⟨d, 0, none⟩), .bool true, .string content, .string finish, .slice a4 tl c4, .slice a5 tl c5, .slice a6 tl c6, .slice a7 tl c7, .slice a8 tl c8, .slice a9 n c9, .bool hu, .int .i64 pr, .int .i64 co] w fun e w' =>
      e = .returned (.tuple #[]) ∧ Has base w00 w' d (text ++ content.data.toList) (set1 finish fin) ((useOf hu pr co).or us) whole := by
  obtain ⟨hb, hs, tag, p, v, iv, up, m, blk, D⟩ := H
  refine (zzadd_yes base d text fin us fs tag p v iv up m blk w D content finish a4 a5 a6 a7 a8 a9 tl n c4 c5 c6 c7 c8 c9 zs s5 s6 s7 s8 s9 news hu pr co (h4.below hb) (h5.below hb) (h6.below hb) (h7.below hb) (h8.below hb) (h9.below hb) htl hn hlen hnews hsz (bnd_firsts hw hwl) (bnd_cat hw hwc)).mono ?_
  rintro e w9 ⟨rfl, t', p', v', iv', up', m', blk', D', S'⟩
  exact ⟨rfl, hb.trans ((S'.below D.bsz D.low).mono hs), hs, t', p', v', iv', up', m', blk', hw ▸ D'⟩

theorem Has.addNo {base d : Nat} {w00 w : World} {text : List UInt8} {fin : ByteArray} {us : Option (Int × Int)} {fs : List Frag} (H : Has base w00 w d text fin us fs) (content finish : ByteArray) (x4 x5 x6 x7 x8 x9 : Value) (hu : Bool) (pr co : Int) :
    Calls Try.prog 10 #[.pointer (some ⟨d, 0, none⟩), .bool false, .string content, .string finish, x4, x5, x6, x7, x8, x9, .bool hu, .int .i64 pr, .int .i64 co] w fun e w' =>
      e = .returned (.tuple #[]) ∧ Has base w00 w' d text fin ((useOf hu pr co).or us) fs := by
  obtain ⟨hb, hs, tag, p, v, iv, up, m, blk, D⟩ := H
  refine (zzadd_no base d text fin us fs tag p v iv up m blk w D content finish x4 x5 x6 x7 x8 x9 hu pr co).mono ?_
  rintro e w9 ⟨rfl, t', p', v', iv', up', m', blk', D', S'⟩
  exact ⟨rfl, hb.trans ((S'.below D.bsz D.low).mono hs), hs, t', p', v', iv', up', m', blk', D'⟩

theorem Has.same {base d : Nat} {w00 w : World} {text fin : ByteArray} {us : Option (Int × Int)} {fs : List Frag} (H : Has base w00 w d text.data.toList fin us fs) (zs : List Int) (s7 s8 s9 s10 : List ByteArray) (n : Nat) (a6 a7 a8 a9 a10 : Option Addr) (c6 c7 c8 c9 c10 : Nat) (hu : Bool) (pr co : Int)
    (hfs : fs = fr zs s7 s8 s9 s10 n) (hus : us = if hu then some (pr, co) else none)
    (h6 : IsInts .i64 w00 a6 n zs) (h7 : IsStrs w00 a7 n s7) (h8 : IsStrs w00 a8 n s8) (h9 : IsStrs w00 a9 n s9) (h10 : IsStrs w00 a10 n s10) (hn : n ≤ 65536) (hcat : ∀ k, (catOf k (fr zs s7 s8 s9 s10 n)).length ≤ 1099511627776) :
    Calls Try.prog 11 #[.pointer (some ⟨d, 0, none⟩), .string text, .string fin, .bool hu, .int .i64 pr, .int .i64 co, .slice a6 n c6, .slice a7 n c7, .slice a8 n c8, .slice a9 n c9, .slice a10 n c10] w fun e w' =>
      e = .returned (.bool true) ∧ Has base w00 w' d text.data.toList fin us fs := by
  subst hfs
  obtain ⟨hb, hs, tag, p, v, iv, up, m, blk, D⟩ := H
  refine (same_any base d fin text us tag p v iv up m blk w w00 zs s7 s8 s9 s10 n a6 a7 a8 a9 a10 c6 c7 c8 c9 c10 hu pr co D hus hs hb h6 h7 h8 h9 h10 hn hcat).mono ?_
  rintro e w9 ⟨rfl, t', D', S'⟩
  exact ⟨rfl, hb.trans ((S'.below D.bsz D.low).mono hs), hs, t', _, _, _, _, _, _, D'⟩
end Go.Proofs.Qxb6605202a
