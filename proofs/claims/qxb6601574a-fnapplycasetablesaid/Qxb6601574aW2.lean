import Derived.Test.Qxb6601574aW1
namespace Go.Proofs.Qxb6601574a
open Go.RowKit Go.WideMaps Go.Maps

theorem Try.info9 : (Try.prog.info? 9).map (fun i => (i.zero, i.size, i.bytes)) = some (some (.string ⟨#[]⟩), 1, 16) := by kernel_rfl

/-- A slice of strings handed back in new memory. -/
def CloneEnd (w : World) (len : Nat) (ss : List ByteArray) (e : Ending) (w' : World) : Prop :=
  ∃ a c, e = .returned (.slice a len c) ∧ IsStrs w' a len ss ∧ Below w.heap.size w w'

set_option maxHeartbeats 400000 in
theorem clone_nil (n c : Nat) (w : World) : Calls Try.prog 10 #[.slice none n c] w fun e w' => e = .returned (.slice none 0 0) ∧ w' = w := by
  have hn := fun W => Lib.run_eql_slice_nil (P := Try.prog) W 22 9 none n c 0 0 Try.underlying22
  go_enter Try.func10, Try.ntmps10
  go_wp2
  go_ret
  exact ⟨rfl, rfl⟩

set_option maxHeartbeats 400000 in
theorem clone_some (ad : Addr) (len cap : Nat) (ss : List ByteArray) (w : World) (hS : IsStrs w (some ad) len ss) (hlen : len ≤ 65536) :
    Calls Try.prog 10 #[.slice (some ad) len cap] w fun e w' => CloneEnd w len ss e w' := by
  have hn := fun W => Lib.run_eql_slice_nil (P := Try.prog) W 22 9 (some ad) len cap 0 0 Try.underlying22
  obtain ⟨i0, hi, hz0, hz1, hz2⟩ := info_parts Try.info9
  go_enter Try.func10, Try.ntmps10
  go_wp2_with (at_make; refine wpList_make_full _ rfl _ _ 22 rfl w.heap.size 9 i0 (.string ⟨#[]⟩) 1 Try.underlying22 hi hz0 hz1 _ _ _ _ len rfl rfl rfl rfl (by rw [hz2]; omega) (by unfold maxLen; omega) (Nat.le_refl _) ?_; intro w1 hown hgrow)
  have hb1 : Below w.heap.size w w1 := (Below.refl _ _).grown hgrow (Nat.le_refl _) (by intro k hk; cases hk)
  go_loopw [4] (fun i wr => ∃ k : Nat, k ≤ len ∧ i = .int .i64 k ∧ Below w.heap.size w wr ∧ ∃ xs, wr.ownsRow w.heap.size 9 1 (.slice (some ⟨w.heap.size, 0, none⟩) len len) len xs ∧ Hid (∀ j, j < k → xs[j]? = some (.string (ss.getD j ByteArray.empty)))) (fun i _ => len - (intOf i).toNat)
  case atStart => exact ⟨0, Nat.zero_le _, rfl, hb1, _, hown, fun j hj => absurd hj (by omega)⟩
  case round =>
    obtain ⟨k, hk, rfl, hb, xs, hrow, hxs⟩ := hrel
    by_cases hlt : k < len
    · obtain ⟨b, off, ha, hbl, hc⟩ := hS.at_ (by omega)
      obtain rfl := Option.some.inj ha
      obtain ⟨key, hkey⟩ : ∃ key, key = ss.getD k ByteArray.empty := ⟨_, rfl⟩
      have hck : wr.cell? ⟨b, off + k, none⟩ = some (.string key) := by rw [hkey, hb.cell (by exact hbl)]; exact hc k hlt
      have HK : Hid (key = ss.getD k ByteArray.empty) := hkey
      obtain ⟨u0, hu0⟩ : ∃ u0, wr.cell? ⟨w.heap.size, k, none⟩ = some u0 := by
        rw [hrow.cellAt k (by omega)]
        exact ⟨_, List.getElem?_eq_getElem (by have := hrow.1; omega)⟩
      have hfr := hrow.frozenAt k
      have H1 := hrow.stored k (.string key)
      have H2 : Hid (∀ j, j < k + 1 → (xs.set k (.string key))[j]? = some (.string (ss.getD j ByteArray.empty))) := by rw [hkey]; exact row_store hrow.1 hlt hxs.out
      clear hc hbl hkey
      go_wp2
      go_roundw
      case rel => exact ⟨k + 1, by omega, by go_num, hb.setCell (Nat.le_refl _) _, _, H1.1, H2⟩
      case measure => simp [intOf]; omega
    · have hkl : k = len := by omega
      have HE : CloneEnd w len ss (.returned (.slice (some ⟨w.heap.size, 0, none⟩) len len)) wr := ⟨_, _, rfl, IsStrs.of_row hrow hS.len_eq hS.short (fun j hj => hxs.out j (by omega)), hb⟩
      clear hkl
      go_wp2
      go_ret
      exact HE

/-- The copy of whatever slice of strings, nil or not. -/
theorem clone_any (a : Option Addr) (len cap : Nat) (ss : List ByteArray) (w : World) (hS : IsStrs w a len ss) (hlen : len ≤ 65536) (h0 : a = none → len = 0) :
    Calls Try.prog 10 #[.slice a len cap] w fun e w' => CloneEnd w len ss e w' := by
  cases a with
  | some ad => exact clone_some ad len cap ss w hS hlen
  | none =>
    obtain rfl := h0 rfl
    refine (clone_nil 0 cap w).mono ?_
    rintro e w' ⟨rfl, rfl⟩
    exact ⟨none, 0, rfl, ⟨hS.len_eq, fun h => absurd h (by omega), hS.short⟩, Below.refl _ _⟩

/-! ### the set -/
theorem law9 : Keyed Try.prog 9 := string_keyed Try.underlying9
theorem zero38 (w : World) : (zeroValue 38).run Try.prog w = .ok (.agg #[]) w := by kernel_rfl
theorem make27 (n : Int) (w : World) : (Instr.makeMap 27 (some (.int .i64 n))).run Try.prog w = .ok (.map (some w.heap.size)) (w.alloc (.map #[] 0)) := by
  kernel_rfl

/-- The map value v answers each look-up '_, ok := v[key]' by f, now and as long as what is there stays. -/
def IsLook (w : World) (v : Value) (f : ByteArray → Bool) : Prop :=
  ∀ w', Below w.heap.size w w' → ∀ key : ByteArray, key.size ≤ maxLen → (Instr.lookup 27 v (.string key) true).run Try.prog w' = .ok (.tuple #[.agg #[], .bool (f key)]) w'

theorem IsLook.below {w w' : World} {v : Value} {f : ByteArray → Bool} (h : IsLook w v f) (hb : Below w.heap.size w w') : IsLook w' v f :=
  fun w2 h2 key hk => h w2 (hb.trans (h2.mono hb.size)) key hk

theorem look_none (w : World) : IsLook w (.map none) fun _ => false := by
  intro w' _ key hk
  rw [Maps.look_nil true law9 Try.underlying27 (zero38 w') (keyOf_string_mk Try.underlying9 hk)]
  rfl

theorem look_set {w : World} {b n : Nat} {ss : List ByteArray} (h : w.ownsMap Try.prog 9 unitElem b n (Sd ss)) : IsLook w (.map (some b)) (mem ss) := by
  intro w' hb key hk
  have h' := below_ownsMap hb h h.lt
  obtain ⟨v, ps, hrun, hv⟩ := h'.look_ok law9 Try.underlying27 (zero38 w') unitElem_mk (keyOf_string_mk Try.underlying9 hk)
  obtain ⟨rfl, _⟩ := unitElem_inv hv
  rw [hrun, has_Sd]

def SetEnd (w : World) (f : ByteArray → Bool) (e : Ending) (w' : World) : Prop := ∃ m, e = .returned (.map m) ∧ IsLook w' (.map m) f ∧ Below w.heap.size w w'

theorem set_nil (a : Option Addr) (len cap : Nat) (w : World) : Calls Try.prog 11 #[.slice a len cap, .bool true] w fun e w' => e = .returned (.map none) ∧ w' = w := by
  go_enter Try.func11, Try.ntmps11
  go_wp2
  go_ret
  exact ⟨rfl, rfl⟩

set_option maxHeartbeats 400000 in
theorem set_some (a : Option Addr) (len cap : Nat) (ss : List ByteArray) (w : World) (hS : IsStrs w a len ss) (hlen : len ≤ 65536) :
    Calls Try.prog 11 #[.slice a len cap, .bool false] w fun e w' => ∃ b n, e = .returned (.map (some b)) ∧ w'.ownsMap Try.prog 9 unitElem b n (Sd ss) ∧ Below w.heap.size w w' := by
  have hmm := make27
  have HL : Hid (ss.length = len) := hS.len_eq
  go_enter Try.func11, Try.ntmps11
  go_wp2
  go_loopw [6] (fun i wr => ∃ k : Nat, k ≤ len ∧ i = .int .i64 k ∧ Below w.heap.size w wr ∧ wr.ownsMap Try.prog 9 unitElem w.heap.size k (Sd (ss.take k))) (fun i _ => len - (intOf i).toNat)
  case atStart => exact ⟨0, Nat.zero_le _, rfl, (Below.refl _ _).alloc (Nat.le_refl _) _, World.ownsMap_made _ _ _ _⟩
  case round =>
    obtain ⟨k, hk, rfl, hb, hown⟩ := hrel
    by_cases hlt : k < len
    · obtain ⟨b, off, ha, hbl, hc⟩ := hS.at_ (by omega)
      have hix := fun W => index_run (P := Try.prog) Try.underlying22 size9 ha cap k hlt W
      obtain ⟨key, hkey⟩ : ∃ key, key = ss.getD k ByteArray.empty := ⟨_, rfl⟩
      have hck : wr.cell? ⟨b, off + k, none⟩ = some (.string key) := by rw [hkey, hb.cell (by exact hbl)]; exact hc k hlt
      have HK : Hid (Sd (ss.take (k + 1)) = (Sd (ss.take k)).put (.string key.data.toList) (.agg [])) := by rw [hkey]; exact Sd_snoc ss k (by rw [HL.out]; exact hlt)
      have hkk : keyOf Try.prog 9 (.string key) = some (.string key.data.toList) := keyOf_string_mk Try.underlying9 (by rw [hkey]; exact hS.short_at k)
      clear hc hbl hkey ha
      go_wp2_with (at_mapUpdate; refine wpList_mapUpdate_own _ rfl _ _ _ 27 rfl 9 38 law9 Try.underlying27 (unitElem (H := Unit)) w.heap.size k _ rfl hown (by unfold maxLen; omega) _ _ _ rfl rfl hkk _ [] unitElem_mk ?_; intro w1 hown1 hgrow1)
      go_roundw
      case rel => exact ⟨k + 1, by omega, by go_num, hb.grown hgrow1 hb.size (fun j hj => by cases hj; exact Nat.le_refl _), by rw [HK.out]; exact hown1⟩
      case measure => simp [intOf]; omega
    · have hown' : wr.ownsMap Try.prog 9 unitElem w.heap.size k (Sd ss) := by rw [List.take_of_length_le (by rw [HL.out]; omega)] at hown; exact hown
      go_wp2
      go_ret
      exact ⟨_, _, rfl, hown', hb⟩

theorem set_any (a : Option Addr) (len cap : Nat) (ss : List ByteArray) (x : Bool) (w : World) (hS : IsStrs w a len ss) (hlen : len ≤ 65536) :
    Calls Try.prog 11 #[.slice a len cap, .bool x] w fun e w' => SetEnd w (fun s => !x && mem ss s) e w' := by
  cases x with
  | true =>
    refine (set_nil a len cap w).mono ?_
    rintro e w' ⟨rfl, rfl⟩
    exact ⟨_, rfl, look_none _, Below.refl _ _⟩
  | false =>
    refine (set_some a len cap ss w hS hlen).mono ?_
    rintro e w' ⟨b, n, rfl, hown, hb⟩
    exact ⟨_, rfl, look_set hown, hb⟩
end Go.Proofs.Qxb6601574a
