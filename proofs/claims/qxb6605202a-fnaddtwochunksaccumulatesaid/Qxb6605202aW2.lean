import Derived.Test.Qxb6605202aW1
namespace Go.Proofs.Qxb6605202a
open Go.RowKit

/-- 'seen before': idx[j] stands among the first m. -/
def seen (zs : List Int) (j m : Nat) : Bool := (zs.take m).any fun x => x == zs.getD j 0

theorem seen_snoc {zs : List Int} {j k : Nat} (hk : k < zs.length) (h : seen zs j k = false) (h' : (zs.getD k 0 == zs.getD j 0) = false) : seen zs j (k + 1) = false := by
  unfold seen at *
  rw [List.take_succ_eq_append_getElem hk, List.any_append, h]
  simpa [List.getD, hk] using h'
theorem seen_hit {zs : List Int} {j m k : Nat} (hk : k < zs.length) (hkm : k < m) (h' : (zs.getD k 0 == zs.getD j 0) = true) : seen zs j m = true := by
  unfold seen
  rw [List.any_eq_true]
  refine ⟨zs[k], ?_, by simpa [List.getD, hk] using h'⟩
  rw [List.mem_take_iff_getElem]
  exact ⟨k, by omega, rfl⟩

set_option maxHeartbeats 400000 in
theorem seen_any (a : Option Addr) (len cap j : Nat) (zs : List Int) (w : World) (hS : IsInts .i64 w a len zs) (_hl : len ≤ 65536) (hj : j < len) :
    Calls Try.prog 18 #[.slice a len cap, .int .i64 j] w fun e w' => e = .returned (.bool (seen zs j j)) ∧ Below w.heap.size w w' := by
  have HL : Hid (zs.length = len) := hS.len_eq
  go_enter Try.func18, Try.ntmps18
  go_wp2
  go_loopw [5] (fun i wr => ∃ k : Nat, k ≤ j ∧ i = .int .i64 k ∧ Below w.heap.size w wr ∧ Hid (seen zs j k = false)) (fun i _ => j - (intOf i).toNat)
  case atStart => exact ⟨0, Nat.zero_le _, rfl, Below.refl _ _, by simp [Hid, seen]⟩
  case round =>
    obtain ⟨k, hk, rfl, hb, hno⟩ := hrel
    by_cases hlt : k < j
    · obtain ⟨b, off, ha, _, hc⟩ := (hS.below hb).at_ (by omega)
      have hix := fun W => index_run (P := Try.prog) Try.underlying22 size3 (len := len) ha cap k (by omega) W
      have hiy := fun W => index_run (P := Try.prog) Try.underlying22 size3 ha cap j hj W
      obtain ⟨x, hx⟩ : ∃ x, x = zs.getD k 0 := ⟨_, rfl⟩
      obtain ⟨y, hy⟩ : ∃ y, y = zs.getD j 0 := ⟨_, rfl⟩
      have hck : wr.cell? ⟨b, off + k, none⟩ = some (.int .i64 x) := by rw [hx]; exact hc k (by omega)
      have hcj : wr.cell? ⟨b, off + j, none⟩ = some (.int .i64 y) := by rw [hy]; exact hc j hj
      have HX : Hid (x = zs.getD k 0) := hx
      have HY : Hid (y = zs.getD j 0) := hy
      clear hc ha hx hy
      go_wp2
      go_quiet (fail)
      go_wp2
      · have ht : (x == y) = true := by assumption
        go_ret
        exact ⟨ret_bool (seen_hit (k := k) (by rw [HL.out]; omega) hlt (by rw [← HX.out, ← HY.out]; exact ht)).symm, below_drewN hb _⟩
      · have ht : (x == y) = false := by assumption
        go_roundw
        case rel => exact ⟨k + 1, by omega, by go_num, below_drewN hb _, seen_snoc (by rw [HL.out]; omega) hno.out (by rw [← HX.out, ← HY.out]; exact ht)⟩
        case measure => simp [intOf]; omega
    · obtain rfl : k = j := by omega
      go_wp2
      go_ret
      exact ⟨ret_bool hno.out.symm, hb⟩

/-- The first that is not empty among vals[m], m from j on, where idx[m] = idx[j]. -/
def fstFrom (zs : List Int) (ss : List ByteArray) (k : Int) : Nat → Nat → ByteArray
  | 0, _ => E
  | n + 1, m => if zs.getD m 0 = k ∧ (ss.getD m ByteArray.empty).toList.isEmpty = false then ss.getD m ByteArray.empty else fstFrom zs ss k n (m + 1)

set_option maxHeartbeats 400000 in
theorem first_any (a b : Option Addr) (len ca cb j : Nat) (zs : List Int) (ss : List ByteArray) (w : World) (hA : IsInts .i64 w a len zs) (hB : IsStrs w b len ss) (_hl : len ≤ 65536) (hj : j < len) :
    Calls Try.prog 20 #[.slice a len ca, .slice b len cb, .int .i64 j] w fun e w' => e = .returned (.string (fstFrom zs ss (zs.getD j 0) (len - j) j)) ∧ w' = w := by
  obtain ⟨ba, oa, ea, _, ha⟩ := hA.at_ (by omega)
  obtain ⟨bb, ob, eb, _, hb⟩ := hB.at_ (by omega)
  have hiy := fun W => index_run (P := Try.prog) Try.underlying22 size3 ea ca j hj W
  obtain ⟨y, hy⟩ : ∃ y, y = zs.getD j 0 := ⟨_, rfl⟩
  have hcj : w.cell? ⟨ba, oa + j, none⟩ = some (.int .i64 y) := by rw [hy]; exact ha j hj
  rw [← hy]
  clear hy
  have EA : Hid (a = some ⟨ba, oa, none⟩) := ea
  have EB : Hid (b = some ⟨bb, ob, none⟩) := eb
  have HA : Hid (∀ j, j < len → w.cell? ⟨ba, oa + j, none⟩ = some (.int .i64 (zs.getD j 0))) := ha
  have HB : Hid (∀ j, j < len → w.cell? ⟨bb, ob + j, none⟩ = some (.string (ss.getD j ByteArray.empty))) := hb
  clear ea eb ha hb hA hB
  go_enter Try.func20, Try.ntmps20
  go_wp2
  go_loop [8] (fun i => ∃ k : Nat, k ≤ len ∧ i = .int .i64 k ∧ Hid (fstFrom zs ss y (len - j) j = fstFrom zs ss y (len - k) k)) (fun i => len - (intOf i).toNat)
  case atStart => exact ⟨j, by omega, rfl, rfl⟩
  case round =>
    obtain ⟨k, hk, rfl, hno⟩ := hrel
    clear hiy hcj
    by_cases hlt : k < len
    · have hix := fun W => index_run (P := Try.prog) Try.underlying22 size3 EA.out ca k hlt W
      have hiz := fun W => index_run (P := Try.prog) Try.underlying23 size9 EB.out cb k hlt W
      obtain ⟨x, hx⟩ : ∃ x, x = zs.getD k 0 := ⟨_, rfl⟩
      obtain ⟨s, hs⟩ : ∃ s, s = ss.getD k ByteArray.empty := ⟨_, rfl⟩
      have hck : w.cell? ⟨ba, oa + k, none⟩ = some (.int .i64 x) := by rw [hx]; exact HA.out k hlt
      have hcs : w.cell? ⟨bb, ob + k, none⟩ = some (.string s) := by rw [hs]; exact HB.out k hlt
      have hstep : fstFrom zs ss y (len - k) k = if x = y ∧ s.toList.isEmpty = false then s else fstFrom zs ss y (len - (k + 1)) (k + 1) := by
        rw [hx, hs, show len - k = (len - (k + 1)) + 1 by omega]; rfl
      have HS : Hid (fstFrom zs ss y (len - j) j = if x = y ∧ s.toList.isEmpty = false then s else fstFrom zs ss y (len - (k + 1)) (k + 1)) := hno.out.trans hstep
      clear hx hs hstep
      by_cases h1 : x = y
      · have e1 : (x == y) = true := by simpa using h1
        have H1 : Hid (x = y) := h1
        clear h1
        cases h2 : s.toList.isEmpty with
        | false =>
          go_wp2
          go_ret
          exact ⟨by rw [HS.out, if_pos ⟨H1.out, h2⟩]; rfl, rfl⟩
        | true =>
          go_wp2
          go_round
          case rel => exact ⟨k + 1, by omega, by go_num, by show _ = _; rw [HS.out, if_neg (by simp [h2])]⟩
          case measure => simp [intOf]; omega
      · have e1 : (x == y) = false := by simpa using h1
        go_wp2
        go_round
        case rel => exact ⟨k + 1, by omega, by go_num, by show _ = _; rw [HS.out, if_neg (by simp [h1])]⟩
        case measure => simp [intOf]; omega
    · obtain rfl : k = len := by omega
      have hE : fstFrom zs ss y (k - j) j = E := by rw [hno.out, Nat.sub_self]; rfl
      have HE : Hid (fstFrom zs ss y (k - j) j = E) := hE
      clear hE
      go_wp2
      go_ret
      exact ⟨by rw [HE.out]; rfl, rfl⟩

/-- The args[m] one behind the other, m from there on, where idx[m] = k. -/
def catFrom (zs : List Int) (ss : List ByteArray) (k : Int) : Nat → Nat → List UInt8
  | 0, _ => []
  | n + 1, m => (if zs.getD m 0 = k then (ss.getD m ByteArray.empty).data.toList else []) ++ catFrom zs ss k n (m + 1)

theorem cut_size {g s : ByteArray} {p : Nat} {r : List UInt8} (h : g.data.toList.drop p = s.data.toList ++ r) (hp : p ≤ g.size) : p + s.size ≤ g.size := by
  have := congrArg List.length h
  rw [List.length_drop, List.length_append, ← Lib.size_eq, ← Lib.size_eq] at this
  omega
theorem cut_byte {g s : ByteArray} {p t : Nat} {r : List UInt8} (h : g.data.toList.drop p = s.data.toList ++ r) (h1 : p + t < g.size) (h2 : t < s.size) : ((g[p + t].toNat : Int) != (s[t].toNat : Int)) = false := by
  have e1 : (g.data.toList.drop p)[t]? = some g[p + t] := by
    rw [List.getElem?_drop]
    have h' : p + t < g.data.toList.length := by simpa using h1
    rw [List.getElem?_eq_getElem h']; rfl
  have e2 : (s.data.toList ++ r)[t]? = some s[t] := by
    have h' : t < s.data.toList.length := by simpa using h2
    rw [List.getElem?_append_left h', List.getElem?_eq_getElem h']; rfl
  rw [h, e2] at e1
  rw [Option.some.inj e1]
  simp
theorem cut_next {g s : ByteArray} {p : Nat} {r : List UInt8} (h : g.data.toList.drop p = s.data.toList ++ r) : g.data.toList.drop (p + s.size) = r := by
  rw [← List.drop_drop, h, Lib.size_eq]
  simp

set_option maxHeartbeats 800000 in
theorem concat_any (g : ByteArray) (a b : Option Addr) (len ca cb j : Nat) (zs : List Int) (ss : List ByteArray) (w : World) (hA : IsInts .i64 w a len zs) (hB : IsStrs w b len ss) (_hl : len ≤ 65536) (hj : j < len) (hgs : g.size ≤ 1099511627776)
    (hg : g.data.toList = catFrom zs ss (zs.getD j 0) (len - j) j) :
    Calls Try.prog 21 #[.string g, .slice a len ca, .slice b len cb, .int .i64 j] w fun e w' => e = .returned (.bool true) ∧ Below w.heap.size w w' := by
  obtain ⟨ba, oa, ea, hba, ha⟩ := hA.at_ (by omega)
  obtain ⟨bb, ob, eb, hbb, hb⟩ := hB.at_ (by omega)
  have hiy := fun W => index_run (P := Try.prog) Try.underlying22 size3 ea ca j hj W
  obtain ⟨y, hy⟩ : ∃ y, y = zs.getD j 0 := ⟨_, rfl⟩
  have hcj : w.cell? ⟨ba, oa + j, none⟩ = some (.int .i64 y) := by rw [hy]; exact ha j hj
  rw [← hy] at hg
  clear hy
  have G0 : Hid (g.data.toList.drop 0 = catFrom zs ss y (len - j) j) := hg
  have EA : Hid (a = some ⟨ba, oa, none⟩) := ea
  have EB : Hid (b = some ⟨bb, ob, none⟩) := eb
  have HA : Hid (∀ j, j < len → w.cell? ⟨ba, oa + j, none⟩ = some (.int .i64 (zs.getD j 0))) := ha
  have HB : Hid (∀ j, j < len → w.cell? ⟨bb, ob + j, none⟩ = some (.string (ss.getD j ByteArray.empty))) := hb
  clear ea eb ha hb hA hB hg
  go_enter Try.func21, Try.ntmps21
  go_wp2
  go_loopw [10, 11, 12, 13] (fun q i _ _ wr => ∃ k p : Nat, k ≤ len ∧ i = .int .i64 k ∧ q = .int .i64 p ∧ p ≤ g.size ∧ Below w.heap.size w wr ∧ Hid (g.data.toList.drop p = catFrom zs ss y (len - k) k)) (fun _ i _ _ _ => len - (intOf i).toNat)
  case atStart => exact ⟨j, 0, by omega, rfl, rfl, by omega, Below.refl _ _, G0⟩
  case round =>
    obtain ⟨k, p, hk, rfl, rfl, hp, hbw, hno⟩ := hrel
    clear hiy hcj G0
    by_cases hlt : k < len
    · have hix := fun W => index_run (P := Try.prog) Try.underlying22 size3 EA.out ca k hlt W
      have hiz := fun W => index_run (P := Try.prog) Try.underlying23 size9 EB.out cb k hlt W
      obtain ⟨x, hx⟩ : ∃ x, x = zs.getD k 0 := ⟨_, rfl⟩
      obtain ⟨s, hs⟩ : ∃ s, s = ss.getD k ByteArray.empty := ⟨_, rfl⟩
      have hck : wr.cell? ⟨ba, oa + k, none⟩ = some (.int .i64 x) := by rw [hx, hbw.cell (by exact hba)]; exact HA.out k hlt
      have hcs : wr.cell? ⟨bb, ob + k, none⟩ = some (.string s) := by rw [hs, hbw.cell (by exact hbb)]; exact HB.out k hlt
      have hstep : catFrom zs ss y (len - k) k = (if x = y then s.data.toList else []) ++ catFrom zs ss y (len - (k + 1)) (k + 1) := by
        rw [hx, hs, show len - k = (len - (k + 1)) + 1 by omega]; rfl
      have HS : Hid (g.data.toList.drop p = (if x = y then s.data.toList else []) ++ catFrom zs ss y (len - (k + 1)) (k + 1)) := hno.out.trans hstep
      clear hx hs hstep
      by_cases h1 : x = y
      · have e1 : (x != y) = false := by simpa using h1
        have H1 : Hid (g.data.toList.drop p = s.data.toList ++ catFrom zs ss y (len - (k + 1)) (k + 1)) := by have := HS.out; rwa [if_pos h1] at this
        have hsz := cut_size H1.out hp
        clear h1 HS
        go_wp2
        obtain ⟨wo, rfl⟩ : ∃ wo : World, wo = wr := ⟨_, rfl⟩
        go_loopw [13] (fun i wi => ∃ t : Nat, t ≤ s.size ∧ i = .int .i64 t ∧ Below w.heap.size w wi) (fun i _ => s.size - (intOf i).toNat)
        case atStart => exact ⟨0, Nat.zero_le _, rfl, hbw⟩
        case round =>
          obtain ⟨t, ht, rfl, hbi⟩ := hrel
          by_cases htl : t < s.size
          · have q1 : (p : Int) + (t : Int) < (g.size : Int) := by omega
            have q2 : (t : Int) < (s.size : Int) := by omega
            have q3 : p + t < g.size := by omega
            have q4 := cut_byte H1.out q3 htl
            have q5 : IntKind.i64.wrap ((p : Int) + (t : Int)) = (p : Int) + (t : Int) := by rw [IntKind.wrap_i64]; omega
            have q6 : ((p : Int) + (t : Int)).toNat = p + t := by omega
            have q7 : (0 : Int) ≤ (p : Int) + (t : Int) := by omega
            go_wp2
            go_quiet (fail)
            go_wp2
            go_roundw
            case rel => exact ⟨t + 1, by omega, by go_num, below_drewN hbi _⟩
            case measure => simp [intOf]; omega
          · have hn := cut_next H1.out
            have HN : Hid (g.data.toList.drop (p + s.size) = catFrom zs ss y (len - (k + 1)) (k + 1)) := hn
            clear hn
            go_wp2
            go_roundw
            case rel => exact ⟨k + 1, p + s.size, by omega, by go_num, by go_num, hsz, hbi, HN⟩
            case measure => simp [intOf]; omega
      · have e1 : (x != y) = true := by simpa using h1
        have HN : Hid (g.data.toList.drop p = catFrom zs ss y (len - (k + 1)) (k + 1)) := by have := HS.out; rwa [if_neg h1, List.nil_append] at this
        go_wp2
        go_roundw
        case rel => exact ⟨k + 1, p, by omega, by go_num, rfl, hp, hbw, HN⟩
        case measure => simp [intOf]; omega
    · obtain rfl : k = len := by omega
      have hpe : p = g.size := by
        have := hno.out
        rw [Nat.sub_self] at this
        have h2 := congrArg List.length this
        rw [List.length_drop, ← Lib.size_eq] at h2
        simp [catFrom] at h2
        omega
      have hpe' : ((p : Int) == (g.size : Int)) = true := by simp; omega
      clear hpe
      go_wp2
      go_ret
      exact ⟨rfl, hbw⟩
end Go.Proofs.Qxb6605202a
