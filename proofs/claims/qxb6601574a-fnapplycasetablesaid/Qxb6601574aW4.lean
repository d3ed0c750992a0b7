import Derived.Test.Qxb6601574aW3
namespace Go.Proofs.Qxb6601574a
open Go.RowKit Go.WideMaps Go.Maps

theorem bcell {W w1 : World} (hb : Below W.heap.size W w1) : (∀ b o, b < W.heap.size → w1.cell? ⟨b, o, none⟩ = W.cell? ⟨b, o, none⟩) ∧ (∀ b o, b < W.heap.size → w1.frozen? ⟨b, o, none⟩ = W.frozen? ⟨b, o, none⟩) :=
  ⟨fun b o h => hb.cell (p := ⟨b, o, none⟩) h, fun b o h => hb.frozen (p := ⟨b, o, none⟩) h⟩

def sItaly : ByteArray := ⟨#[51, 57]⟩
def sNon : ByteArray := ⟨#[99, 97, 108, 108, 101, 100, 45, 110, 111, 110, 45, 112, 111, 114, 116, 97, 98, 108, 101]⟩
def sArea : ByteArray := ⟨#[99, 108, 105, 45, 97, 114, 101, 97, 45, 99, 111, 100, 101, 45, 111, 110, 108, 121]⟩
def sIntl : ByteArray := ⟨#[99, 97, 108, 108, 101, 100, 45, 105, 110, 116, 101, 114, 110, 97, 116, 105, 111, 110, 97, 108]⟩

/-- THE CASE TABLE: g: the rule is the geographic one; m: it is empty. -/
def table (rule : ByteArray) (g m cov ital area : Bool) : ByteArray :=
  if !g && !m then rule else if cov then sNon else if ital then rule else if area then sArea else sIntl

def isGeo (rule : ByteArray) : Bool := rule.toList == [99, 108, 105, 45, 105, 116, 97, 108, 105, 97, 110, 45, 103, 101, 111, 103, 114, 97, 112, 104, 105, 99]
def isNone (rule : ByteArray) : Bool := rule.toList.isEmpty

set_option maxHeartbeats 400000 in
theorem apply_any (mN mA : Option Nat) (fN fA : ByteArray → Bool) (rule cli called : ByteArray) (w : World) (hN : IsLook w (.map mN) fN) (hA : IsLook w (.map mA) fA) (hcli : cli.size ≤ maxLen) (hcalled : called.size ≤ maxLen) :
    Calls Try.prog 12 #[.agg #[.map mN, .map mA], .string rule, .string cli, .string called] w fun e w' =>
      e = .returned (.string (table rule (isGeo rule) (isNone rule) (longTo fN called (min called.size 15)) (pre called sItaly) (fA cli))) ∧ Below w.heap.size w w' := by
  have hg : (rule.toList == [99, 108, 105, 45, 105, 116, 97, 108, 105, 97, 110, 45, 103, 101, 111, 103, 114, 97, 112, 104, 105, 99]) = isGeo rule := rfl
  have hm : rule.toList.isEmpty = isNone rule := rfl
  have hlt : sItaly.size ≤ maxLen := by decide
  have pass : (isGeo rule = true) ∨ (isGeo rule = false ∧ isNone rule = true) ∨ (isGeo rule = false ∧ isNone rule = false) := by
    cases isGeo rule <;> cases isNone rule <;> simp
  have tab : ∀ g m c i a : Bool, (g = true ∨ m = true) → table rule g m c i a = if c then sNon else if i then rule else if a then sArea else sIntl := by
    intro g m c i a h
    unfold table
    rw [if_neg (by rcases h with rfl | rfl <;> simp)]
  rcases pass with eg | ⟨eg, em⟩ | ⟨eg, em⟩
  · rw [tab _ _ _ _ _ (.inl eg)]
    rw [eg] at hg
    clear tab hm
    go_enter Try.func12, Try.ntmps12
    go_wp2_with (first
      | (go_at_call 19; refine (covers_any _ fN called _ (hN.below ((Below.refl _ _).alloc (Nat.le_refl _) _)) hcalled).mono ?_; rintro e w1 ⟨rfl, hb1⟩; have hc1 : w1.cell? ⟨w.heap.size, 1, none⟩ = some (.map mA) := (hb1.cell (by simp)).trans (by simp); have hbw : Below w.heap.size w w1 := ((Below.refl _ _).alloc (Nat.le_refl _) _).trans (hb1.mono (by simp)); have hlk := hA w1 hbw cli hcli; clear hb1)
      | (go_at_call 20; refine (libPrefix_any called sItaly _ hcalled hlt).mono ?_; rintro e w' ⟨rfl, rfl⟩))
    all_goals go_ret
    all_goals first | exact ⟨rfl, hbw⟩ | exact ⟨rfl, hbw.alloc hbw.size _⟩
  · rw [tab _ _ _ _ _ (.inr em)]
    rw [eg] at hg
    rw [em] at hm
    clear tab
    go_enter Try.func12, Try.ntmps12
    go_wp2_with (first
      | (go_at_call 19; refine (covers_any _ fN called _ (hN.below ((Below.refl _ _).alloc (Nat.le_refl _) _)) hcalled).mono ?_; rintro e w1 ⟨rfl, hb1⟩; have hc1 : w1.cell? ⟨w.heap.size, 1, none⟩ = some (.map mA) := (hb1.cell (by simp)).trans (by simp); have hbw : Below w.heap.size w w1 := ((Below.refl _ _).alloc (Nat.le_refl _) _).trans (hb1.mono (by simp)); have hlk := hA w1 hbw cli hcli; clear hb1)
      | (go_at_call 20; refine (libPrefix_any called sItaly _ hcalled hlt).mono ?_; rintro e w' ⟨rfl, rfl⟩))
    all_goals go_ret
    all_goals first | exact ⟨rfl, hbw⟩ | exact ⟨rfl, hbw.alloc hbw.size _⟩
  · rw [eg] at hg
    rw [em] at hm
    go_enter Try.func12, Try.ntmps12
    go_wp2_with fail
    go_ret
    exact ⟨by rw [eg, em]; rfl, (Below.refl _ _).alloc (Nat.le_refl _) _⟩

set_option maxHeartbeats 400000 in
theorem model_any (rule cli called : ByteArray) (a3 a5 : Option Addr) (l3 c3 l5 c5 : Nat) (s3 s5 : List ByteArray) (x4 x6 : Bool) (w : World) (h3 : IsStrs w a3 l3 s3) (h5 : IsStrs w a5 l5 s5) (hl3 : l3 ≤ 65536) (hl5 : l5 ≤ 65536)
    (hcalled : called.size ≤ maxLen) :
    Calls Try.prog 13 #[.string rule, .string cli, .string called, .slice a3 l3 c3, .bool x4, .slice a5 l5 c5, .bool x6] w fun e w' =>
      e = .returned (.string (table rule (isGeo rule) (isNone rule) (!x4 && covered s3 called) (pre called sItaly) (!x6 && mem s5 cli))) ∧ Below w.heap.size w w' := by
  have hg : (rule.toList == [99, 108, 105, 45, 105, 116, 97, 108, 105, 97, 110, 45, 103, 101, 111, 103, 114, 97, 112, 104, 105, 99]) = isGeo rule := rfl
  have hm : rule.toList.isEmpty = isNone rule := rfl
  have hlt : sItaly.size ≤ maxLen := by decide
  have cov : ∀ W, Below w.heap.size w W → Calls Try.prog 21 #[.slice a3 l3 c3, .bool x4, .string called] W fun e w' => e = .returned (.bool (!x4 && covered s3 called)) ∧ Below W.heap.size W w' := by
    intro W hW
    cases x4 with
    | true => exact (covered_nil _ _ _).mono (by rintro e w' ⟨rfl, rfl⟩; exact ⟨rfl, Below.refl _ _⟩)
    | false => exact covered_any a3 l3 c3 s3 called W (h3.below hW) hl3 hcalled
  have mb : ∀ W, Below w.heap.size w W → Calls Try.prog 23 #[.slice a5 l5 c5, .bool x6, .string cli] W fun e w' => e = .returned (.bool (!x6 && mem s5 cli)) ∧ w' = W := by
    intro W hW
    cases x6 with
    | true => exact (member_nil _ _ _).mono (by rintro e w' ⟨rfl, rfl⟩; exact ⟨rfl, rfl⟩)
    | false => exact member_any a5 l5 c5 s5 cli W (h5.below hW) hl5
  generalize (!x4 && covered s3 called) = bc at *
  generalize (!x6 && mem s5 cli) = bm at *
  have Hcov := cov
  have COV : Hid (∀ W, Below w.heap.size w W → Calls Try.prog 21 #[.slice a3 l3 c3, .bool x4, .string called] W fun e w' => e = .returned (.bool bc) ∧ Below W.heap.size W w') := cov
  have MB : Hid (∀ W, Below w.heap.size w W → Calls Try.prog 23 #[.slice a5 l5 c5, .bool x6, .string cli] W fun e w' => e = .returned (.bool bm) ∧ w' = W) := mb
  clear cov mb Hcov
  have pass : (isGeo rule = true) ∨ (isGeo rule = false ∧ isNone rule = true) ∨ (isGeo rule = false ∧ isNone rule = false) := by
    cases isGeo rule <;> cases isNone rule <;> simp
  have tab : ∀ g m c i a : Bool, (g = true ∨ m = true) → table rule g m c i a = if c then sNon else if i then rule else if a then sArea else sIntl := by
    intro g m c i a h
    unfold table
    rw [if_neg (by rcases h with rfl | rfl <;> simp)]
  rcases pass with eg | ⟨eg, em⟩ | ⟨eg, em⟩
  · rw [tab _ _ _ _ _ (.inl eg)]
    rw [eg] at hg
    clear tab hm
    go_enter Try.func13, Try.ntmps13
    go_wp2_with (first
      | (go_at_call 21; refine (COV.out _ (Below.refl _ _)).mono ?_; rintro e w1 ⟨rfl, hb1⟩)
      | (go_at_call 22; refine (hasPrefix_any called sItaly _ hcalled hlt).mono ?_; rintro e w2 ⟨rfl, hb2⟩; have hbw := hb1.trans (hb2.mono hb1.size))
      | (go_at_call 23; refine (MB.out _ hbw).mono ?_; rintro e w3 ⟨rfl, rfl⟩))
    all_goals go_ret
    all_goals first | exact ⟨rfl, hbw⟩ | exact ⟨rfl, hb1⟩
  · rw [tab _ _ _ _ _ (.inr em)]
    rw [eg] at hg
    rw [em] at hm
    clear tab
    go_enter Try.func13, Try.ntmps13
    go_wp2_with (first
      | (go_at_call 21; refine (COV.out _ (Below.refl _ _)).mono ?_; rintro e w1 ⟨rfl, hb1⟩)
      | (go_at_call 22; refine (hasPrefix_any called sItaly _ hcalled hlt).mono ?_; rintro e w2 ⟨rfl, hb2⟩; have hbw := hb1.trans (hb2.mono hb1.size))
      | (go_at_call 23; refine (MB.out _ hbw).mono ?_; rintro e w3 ⟨rfl, rfl⟩))
    all_goals go_ret
    all_goals first | exact ⟨rfl, hbw⟩ | exact ⟨rfl, hb1⟩
  · rw [eg] at hg
    rw [em] at hm
    go_enter Try.func13, Try.ntmps13
    go_wp2_with fail
    go_ret
    exact ⟨by rw [eg, em]; rfl, Below.refl _ _⟩
end Go.Proofs.Qxb6601574a
