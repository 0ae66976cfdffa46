import Derived.Test.Qxb6604013aFillLaw
namespace Go.Proofs.Qxb6604013a
open Go.RowKit
set_option linter.unusedVariables false
attribute [local go_sem ↓] Go.wp_at_zero Go.wp_at_succ

theorem splice_get {α : Type} (L : List α) (o : Nat) (cs : List α) (h : o + cs.length ≤ L.length) (i : Nat) :
    (splice L o cs)[i]? = if i < o then L[i]? else if i < o + cs.length then cs[i - o]? else L[i]? := by
  unfold splice
  by_cases h1 : i < o
  · rw [if_pos h1, List.getElem?_append_left (by simp; omega), List.getElem?_take, if_pos h1]
  · rw [if_neg h1, List.getElem?_append_right (by simp; omega)]
    have e : (L.take o).length = o := by simp; omega
    rw [e]
    by_cases h2 : i < o + cs.length
    · rw [if_pos h2, List.getElem?_append_left (by omega)]
    · rw [if_neg h2, List.getElem?_append_right (by omega), List.getElem?_drop]
      congr 1; omega

/-- The elements of a slice of ZCells that came in, nil or not. -/
def IsCellsO (w : World) (a0 : Option Addr) (len : Nat) (Z : Nat → Int × Int × Int × Int × Int) : Prop :=
  ∀ i, i < len → ∃ b off, a0 = some ⟨b, off, none⟩ ∧ w.rangeAt b (off + i * 5) (cv5 (Z i).1 (Z i).2.1 (Z i).2.2.1 (Z i).2.2.2.1 (Z i).2.2.2.2)
theorem range_lt {w : World} {b o : Nat} {r fg bg a m : Int} (h : w.rangeAt b o (cv5 r fg bg a m)) : b < w.heap.size :=
  World.block_lt_of_cell? w ⟨b, _, none⟩ (h 0 _ rfl)
theorem range_below {w w' : World} {B b o : Nat} {cs : List Value} (h : w.rangeAt b o cs) (hb : Below B w w') (hlt : b < B) : w'.rangeAt b o cs := fun j v hv => (hb.cell (p := ⟨b, o + j, none⟩) hlt).trans (h j v hv)

/-- The cells of the tail that lie in the row from element n on. -/
def Tail (L : List Value) (n : Nat) (Z : Nat → Int × Int × Int × Int × Int) (j : Nat) : Prop :=
  ∀ q, q < j → ∀ t v, (cv5 (Z q).1 (Z q).2.1 (Z q).2.2.1 (Z q).2.2.2.1 (Z q).2.2.2.2)[t]? = some v → L[(n + q) * 5 + t]? = some v
theorem Tail.step {L : List Value} {n : Nat} {Z : Nat → Int × Int × Int × Int × Int} {j : Nat} (h : Tail L n Z j) (hl : (n + j) * 5 + 5 ≤ L.length) :
    Tail (splice L ((n + j) * 5) (cv5 (Z j).1 (Z j).2.1 (Z j).2.2.1 (Z j).2.2.2.1 (Z j).2.2.2.2)) n Z (j + 1) := by
  intro q hq t v hv
  have ht : t < 5 := (List.getElem?_eq_some_iff.1 hv).1
  rw [splice_get _ _ _ (by rw [cv5_length]; omega), cv5_length]
  by_cases e : q = j
  · subst e
    rw [if_neg (by omega), if_pos (by omega), ← hv]
    congr 1; omega
  · rw [if_pos (by omega)]
    exact h q (by omega) t v hv
theorem Tail.fill {L : List Value} {n : Nat} {Z : Nat → Int × Int × Int × Int × Int} {j : Nat} (h : Tail L n Z j) (r fg bg a m : Int) : Tail (Rep n (cv5 r fg bg a m) ++ L.drop (n * 5)) n Z j := by
  intro q hq t v hv
  have e : (Rep n (cv5 r fg bg a m)).length = n * 5 := by rw [Rep_length, cv5_length]
  rw [List.getElem?_append_right (by rw [e, Nat.add_mul]; omega), e, List.getElem?_drop, ← h q hq t v hv]
  congr 1
  rw [Nat.add_mul]; omega
theorem Tail.range {w : World} {b : Nat} {t : TypeId} {L : List Value} {n : Nat} {Z : Nat → Int × Int × Int × Int × Int} {j : Nat} (h : Tail L n Z j) (hb : Blk w b t L) (q : Nat) (hq : q < j) :
    w.rangeAt b ((n + q) * 5) (cv5 (Z q).1 (Z q).2.1 (Z q).2.2.1 (Z q).2.2.2.1 (Z q).2.2.2.2) := hb.range _ _ (fun t v hv => h q hq t v hv)

set_option maxHeartbeats 400000 in
theorem bytes20_yes (r fg bg a m : Int) (a0 a1 : Option Addr) (l0 c0 l1 c1 : Nat) (w : World) (h : l0 + l1 ≤ 1048576) :
    Calls Try.prog 20 #[.slice a0 l0 c0, .slice a1 l1 c1, .agg #[.int .i32 r, .int .u32 fg, .int .u32 bg, .int .u8 a, .int .u32 m]] w fun e w' => e = .returned (.bool true) ∧ Below w.heap.size w w' := by
  have h1 : l0 ≤ 1048576 := by omega
  have h2 : l1 ≤ 1048576 := by omega
  go_enter Try.func20, Try.ntmps20
  go_wp2
  go_ret
  exact ⟨rfl, (Below.refl _ _).alloc (Nat.le_refl _) _⟩

set_option maxHeartbeats 400000 in
theorem bytes20_no (r fg bg a m : Int) (a0 a1 : Option Addr) (l0 c0 l1 c1 : Nat) (w : World) (h : 1048576 < l0 + l1) :
    Calls Try.prog 20 #[.slice a0 l0 c0, .slice a1 l1 c1, .agg #[.int .i32 r, .int .u32 fg, .int .u32 bg, .int .u8 a, .int .u32 m]] w fun e w' => e = .returned (.bool false) ∧ Below w.heap.size w w' := by
  by_cases h1 : l0 ≤ 1048576
  · by_cases h2 : l1 ≤ 1048576
    · go_enter Try.func20, Try.ntmps20
      go_wp2
      go_ret
      exact ⟨rfl, (Below.refl _ _).alloc (Nat.le_refl _) _⟩
    · go_enter Try.func20, Try.ntmps20
      go_wp2
      go_ret
      exact ⟨rfl, (Below.refl _ _).alloc (Nat.le_refl _) _⟩
  · go_enter Try.func20, Try.ntmps20
    go_wp2
    go_ret
    exact ⟨rfl, (Below.refl _ _).alloc (Nat.le_refl _) _⟩

set_option maxHeartbeats 400000 in
theorem law6_big (r fg bg a m : Int) (a0 a1 : Option Addr) (l0 c0 l1 c1 : Nat) (w : World) (h : 52428 < l0 + l1) :
    Calls Try.prog 6 #[.slice a0 l0 c0, .slice a1 l1 c1, .agg #[.int .i32 r, .int .u32 fg, .int .u32 bg, .int .u8 a, .int .u32 m]] w fun e w' => e = .returned (.bool true) ∧ Below w.heap.size w w' := by
  by_cases hb : l0 + l1 ≤ 1048576
  · by_cases h0 : 52428 < l0
    · go_enter Try.func6, Try.ntmps6
      go_wp2_with (first | (go_at_call 20; refine (bytes20_yes _ _ _ _ _ _ _ _ _ _ _ _ hb).mono ?_; rintro e w1 ⟨rfl, hb1⟩))
      go_ret
      exact ⟨rfl, (((Below.refl _ w).alloc (Nat.le_refl _) _).trans (hb1.mono (by simp)))⟩
    · by_cases h1 : 52428 < l1
      · go_enter Try.func6, Try.ntmps6
        go_wp2_with (first | (go_at_call 20; refine (bytes20_yes _ _ _ _ _ _ _ _ _ _ _ _ hb).mono ?_; rintro e w1 ⟨rfl, hb1⟩))
        go_ret
        exact ⟨rfl, (((Below.refl _ w).alloc (Nat.le_refl _) _).trans (hb1.mono (by simp)))⟩
      · go_enter Try.func6, Try.ntmps6
        go_wp2_with (first | (go_at_call 20; refine (bytes20_yes _ _ _ _ _ _ _ _ _ _ _ _ hb).mono ?_; rintro e w1 ⟨rfl, hb1⟩))
        go_ret
        exact ⟨rfl, (((Below.refl _ w).alloc (Nat.le_refl _) _).trans (hb1.mono (by simp)))⟩
  · go_enter Try.func6, Try.ntmps6
    go_wp2_with (first | (go_at_call 20; refine (bytes20_no _ _ _ _ _ _ _ _ _ _ _ _ (by omega)).mono ?_; rintro e w1 ⟨rfl, hb1⟩))
    go_ret
    exact ⟨rfl, (((Below.refl _ w).alloc (Nat.le_refl _) _).trans (hb1.mono (by simp)))⟩

end Go.Proofs.Qxb6604013a
