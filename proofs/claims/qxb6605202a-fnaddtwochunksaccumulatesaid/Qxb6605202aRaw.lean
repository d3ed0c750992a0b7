import Derived.Test.Qxb6605202aW2
import Derived.Lib.FrozenHead
import Derived.RegionTactic
import Derived.LaidEqlPtr
namespace Go.Proofs.Qxb6605202a
open Go.RowKit

def sdat : { F : Array TypeId → TypeId → Array Value → Sem Value // ∀ ats ty cs args, builtin (Builtin.ofNat 20) ats ty cs args = (do pure (.value (← F ats ty args))) } := ⟨_, fun _ _ _ _ => rfl⟩
def ustr : { F : Array TypeId → TypeId → Array Value → Sem Value // ∀ ats ty cs args, builtin (Builtin.ofNat 21) ats ty cs args = (do pure (.value (← F ats ty args))) } := ⟨_, fun _ _ _ _ => rfl⟩

theorem sdat_row {P : Program} (w : World) (ts : Array TypeId) (ty : TypeId) (a : Addr) (n c : Nat) (hc : c ≠ 0) : (sdat.1 ts ty #[.slice (some a) n c]).run P w = .ok (.pointer (some a)) w := by
  obtain ⟨k, rfl⟩ : ∃ k, c = k + 1 := ⟨c - 1, by omega⟩
  rfl

/-- One step of a run, whatever its name. -/
theorem peel {P : Program} {w w' : World} {α : Type} {x : α} (F : Sem Value) (m : Sem α) (G : α → Sem Value) (h : F = m >>= G) (hm : m.run P w = .ok x w') {R : Result Value} (hr : (G x).run P w' = R) : F.run P w = R := by
  rw [h]
  simp [hm, hr]

theorem sdat_zero {P : Program} (w : World) (ts : Array TypeId) (ty e : TypeId) (hp : P.underlying ty = some (.pointer e)) (a : Addr) (n : Nat) (sh : TypeId × Nat) (hsh : w.shape? a.block = some sh) :
    (sdat.1 ts ty #[.slice (some a) n 0]).run P w = .ok (.pointer (some ⟨w.heap.size, 0, none⟩)) (w.alloc (.view a e)) := by
  refine peel (x := none) (w' := w) _ (viewAt a.block) _ rfl (by simp [viewAt, hsh]) ?_
  simp [elemOf, run_underlying hp]

theorem ustr_none {P : Program} (w : World) (pt it ty : TypeId) (p : Option Addr) : (ustr.1 #[pt, it] ty #[.pointer p, .int .i64 0]).run P w = .ok (.string .empty) w := by
  have hmax : IntKind.i64.max = 9223372036854775807 := rfl
  refine peel (x := (0 : Int)) (w' := w) _ (asInt (.int .i64 0)) _ rfl (by simp [asInt, asIntOf]) ?_
  cases p <;> simp [hmax]

theorem ustr_row {P : Program} (w : World) (pt it ty e : TypeId) (hp : P.underlying pt = some (.pointer e)) (hc : P.cellsOf e = 1) (g cells : Nat) (hsh : w.shape? g = some (e, cells)) (l : List UInt8) (h0 : l ≠ []) (hn : l.length ≤ cells) (h63 : l.length ≤ 9223372036854775807)
    (hcell : ∀ j x, l[j]? = some x → w.cell? ((⟨g, 0, none⟩ : Addr).add j) = some (.int .u8 x.toNat)) :
    (ustr.1 #[pt, it] ty #[.pointer (some ⟨g, 0, none⟩), .int .i64 l.length]).run P w = .ok (.string ⟨l.toArray⟩) (w.freeze ⟨g, 0, none⟩ l.length) := by
  have hl : l.length ≠ 0 := by simpa using h0
  have hlb := Lib.run_loadBytes (P := P) w l ⟨g, 0, none⟩ .empty hcell
  have hlies := Lib.liesAt_bytes (P := P) hc (cells / P.cellsOf e) l.length (by rw [hc]; simpa using hn)
  have h63' : ¬ (9223372036854775807 : Int) < (l.length : Int) := by omega
  have hmax : IntKind.i64.max = 9223372036854775807 := rfl
  have hneg : ¬ (l.length : Int) < 0 := by omega
  refine peel (x := (l.length : Int)) (w' := w) _ (asInt (.int .i64 l.length)) _ rfl (by simp [asInt, asIntOf]) ?_
  simp [hmax, h63', hneg, hl, variablesAt, hsh, elemOf, run_underlying hp, hlies, hlb]

theorem under_two {P : Program} {w : World} {s t : TypeId} {a b : TypeDesc} (F : Sem Value) (G : TypeDesc → TypeDesc → Sem Value) (h : F = (do let a ← underlying s; let b ← underlying t; G a b)) (ha : P.underlying s = some a) (hb : P.underlying t = some b) {R : Result Value} (hr : (G a b).run P w = R) : F.run P w = R := by
  rw [h]
  simp [run_underlying ha, run_underlying hb, hr]

theorem to_raw (w : World) (b o : Nat) (cur : Array Value) (T : TypeId) (j : TypeInfo) (hj : Try.prog.info? 36 = some j) (hz : j.size ≠ 0) (hsh : w.shape? b = some (T, cur.size)) (ho : o < cur.size) : (convert 33 82 (.pointer (some ⟨b, o, none⟩))).run Try.prog w = .ok (.pointer (some ⟨b, o, none⟩)) w := by
  simp only [convert]
  refine under_two _ _ rfl Try.underlying33 Try.underlying82 ?_
  refine under_two _ _ rfl Try.underlying33 Try.underlying82 ?_
  simp [Conv.seenAt, viewAt, cellsIn, hsh, sizeOf, typeInfo, hj, hz]
  intro h
  omega

theorem of_raw (w : World) (b o : Nat) (cur : Array Value) (T : TypeId) (j : TypeInfo) (hj : Try.prog.info? 36 = some j) (hsh : w.shape? b = some (T, cur.size)) (hlies : liesAt Try.prog Try.prog.depth T (cur.size / Try.prog.cellsOf T) o 36 1 = true) : (convert 82 33 (.pointer (some ⟨b, o, none⟩))).run Try.prog w = .ok (.pointer (some ⟨b, o, none⟩)) w := by
  simp only [convert]
  refine under_two _ _ rfl Try.underlying82 Try.underlying33 ?_
  refine under_two _ _ rfl Try.underlying82 Try.underlying33 ?_
  simp [Conv.seenAt, viewAt, hsh, variablesAt, hlies, sizeOf, typeInfo, hj]
end Go.Proofs.Qxb6605202a
