import Derived.Test.Qxb6604013aLaw3
namespace Go.Proofs.Qxb6604013a
open Go.RowKit
set_option linter.unusedVariables false
set_option linter.unusedSimpArgs false
attribute [local go_sem ↓] Go.wp_at_zero Go.wp_at_succ

/-- The sum of the first i lengths. -/
def su (l : Nat → Nat) : Nat → Nat
  | 0 => 0
  | i + 1 => su l i + l i
theorem su_succ (l : Nat → Nat) (i : Nat) : su l (i + 1) = su l i + l i := rfl
theorem su_mono (l : Nat → Nat) {i : Nat} : ∀ j, i ≤ j → su l i ≤ su l j
  | 0, h => by obtain rfl : i = 0 := by omega
               exact Nat.le_refl _
  | j + 1, h => by
    rcases Nat.lt_or_ge i (j + 1) with h' | h'
    · have := su_mono l j (by omega : i ≤ j); rw [su_succ]; omega
    · obtain rfl : i = j + 1 := by omega
      exact Nat.le_refl _
theorem su_at (l : Nat → Nat) {i j : Nat} (h : i < j) : su l i + l i ≤ su l j := su_mono l j h

/-- A slice of slices, as a walk reads it. -/
structure IsRow2 (w : World) (a : Option Addr) (n b off : Nat) (aA : Nat → Option Addr) (lA cA : Nat → Nat) : Prop where
  at_ : 0 < n → a = some ⟨b, off, none⟩
  cell : ∀ i, i < n → w.cell? ⟨b, off + i, none⟩ = some (.slice (aA i) (lA i) (cA i))
theorem IsRow2.lt {w : World} {a : Option Addr} {n b off : Nat} {aA : Nat → Option Addr} {lA cA : Nat → Nat} (h : IsRow2 w a n b off aA lA cA) (hn : 0 < n) : b < w.heap.size := World.block_lt_of_cell? w ⟨b, _, none⟩ (h.cell 0 hn)
theorem IsRow2.below {w w' : World} {a : Option Addr} {n b off : Nat} {aA : Nat → Option Addr} {lA cA : Nat → Nat} (h : IsRow2 w a n b off aA lA cA) (hb : Below w.heap.size w w') : IsRow2 w' a n b off aA lA cA :=
  ⟨h.at_, fun i hi => (hb.cell (p := ⟨b, off + i, none⟩) (h.lt (by omega))).trans (h.cell i hi)⟩

set_option maxHeartbeats 1000000 in
theorem bytes14_yes (a0 a1 : Option Addr) (n0 c0 n1 c1 b0 o0 b1 o1 : Nat) (aA aR : Nat → Option Addr) (lA cA lR cR : Nat → Nat) (w : World) (h0 : IsRow2 w a0 n0 b0 o0 aA lA cA) (h1 : IsRow2 w a1 n1 b1 o1 aR lR cR) (h : n0 + su lA n0 + n1 + su lR n1 ≤ 1048576) :
    Calls Try.prog 14 #[.slice a0 n0 c0, .slice a1 n1 c1] w fun e w' => e = .returned (.bool true) ∧ w = w' := by
  have hn0 : n0 ≤ 1048576 := by omega
  have hn1 : n1 ≤ 1048576 := by omega
  have HH : Hid (n0 + su lA n0 + n1 + su lR n1 ≤ 1048576) := h
  clear h
  go_enter Try.func14, Try.ntmps14
  go_wp2
  go_loopg [5, 6] n0 (fun k t q wr => ∃ i s : Nat, i ≤ n0 ∧ k = n0 - i ∧ t = .int .i64 (s : Int) ∧ q = .int .i64 (i : Int) ∧ s = n0 + su lA i ∧ w = wr)
  case atStart => exact ⟨0, n0, by omega, rfl, by go_num, rfl, rfl, rfl⟩
  case round =>
    obtain ⟨i, s, hi, rfl, rfl, rfl, hs, rfl⟩ := hrel
    have HS : Hid (s = n0 + su lA i) := hs
    have hsb : s + n1 ≤ 1048576 := by have := su_mono lA n0 hi; have := HH.out; omega
    clear hs
    by_cases hlt : i < n0
    · obtain rfl := h0.at_ (by omega)
      have hc := h0.cell i hlt
      have hl0 : (0 : Int) ≤ (i : Int) := by omega
      have hl1 : (i : Int) < (n0 : Int) := by omega
      have hb1 : s + lA i ≤ 1048576 := by have := su_at lA hlt; have := HS.out; have := HH.out; omega
      have HS2 : Hid (s + lA i = n0 + su lA (i + 1)) := by show _ = _; have := HS.out; rw [su_succ]; omega
      generalize lA i = m at hc hb1 HS2
      go_wp2
      go_roundg (n0 - (i + 1))
      case measure => omega
      case rel => exact ⟨i + 1, s + m, by omega, rfl, by go_num, by go_num, HS2.out, rfl⟩
    · obtain rfl : i = n0 := by omega
      go_wp2
      go_loopg [5, 7] n1 (fun k t q wr => ∃ j u : Nat, j ≤ n1 ∧ k = n1 - j ∧ t = .int .i64 (u : Int) ∧ q = .int .i64 (j : Int) ∧ u = s + n1 + su lR j ∧ w = wr)
      case atStart => exact ⟨0, s + n1, by omega, rfl, by go_num, rfl, rfl, rfl⟩
      case round =>
        obtain ⟨j, u, hj, rfl, rfl, rfl, hu, rfl⟩ := hrel
        have HU : Hid (u = s + n1 + su lR j) := hu
        have hub : u ≤ 1048576 := by have := su_mono lR n1 hj; have := HS.out; have := HH.out; omega
        clear hu
        by_cases hlt2 : j < n1
        · obtain rfl := h1.at_ (by omega)
          have hc := h1.cell j hlt2
          have hl0 : (0 : Int) ≤ (j : Int) := by omega
          have hl1 : (j : Int) < (n1 : Int) := by omega
          have hb1 : u + lR j ≤ 1048576 := by have := su_at lR hlt2; have := HS.out; have := HU.out; have := HH.out; omega
          have HU2 : Hid (u + lR j = s + n1 + su lR (j + 1)) := by show _ = _; have := HU.out; rw [su_succ]; omega
          generalize lR j = m at hc hb1 HU2
          go_wp2
          go_roundg (n1 - (j + 1))
          case measure => omega
          case rel => exact ⟨j + 1, u + m, by omega, rfl, by go_num, by go_num, HU2.out, rfl⟩
        · go_wp2
          go_ret
          exact ⟨rfl, rfl⟩

set_option maxHeartbeats 1000000 in
theorem bytes14_no (a0 a1 : Option Addr) (n0 c0 n1 c1 b0 o0 b1 o1 : Nat) (aA aR : Nat → Option Addr) (lA cA lR cR : Nat → Nat) (w : World) (h0 : IsRow2 w a0 n0 b0 o0 aA lA cA) (h1 : IsRow2 w a1 n1 b1 o1 aR lR cR) (h : 1048576 < n0 + su lA n0 + n1 + su lR n1) :
    Calls Try.prog 14 #[.slice a0 n0 c0, .slice a1 n1 c1] w fun e w' => e = .returned (.bool false) ∧ w = w' := by
  have HH : Hid (1048576 < n0 + su lA n0 + n1 + su lR n1) := h
  clear h
  by_cases hn0 : n0 ≤ 1048576
  · go_enter Try.func14, Try.ntmps14
    go_wp2
    go_loopg [5, 6] n0 (fun k t q wr => ∃ i s : Nat, i ≤ n0 ∧ k = n0 - i ∧ t = .int .i64 (s : Int) ∧ q = .int .i64 (i : Int) ∧ s = n0 + su lA i ∧ s ≤ 1048576 ∧ w = wr)
    case atStart => exact ⟨0, n0, by omega, rfl, by go_num, rfl, rfl, hn0, rfl⟩
    case round =>
      obtain ⟨i, s, hi, rfl, rfl, rfl, hs, hsb, rfl⟩ := hrel
      have HS : Hid (s = n0 + su lA i) := hs
      clear hs
      by_cases hlt : i < n0
      · obtain rfl := h0.at_ (by omega)
        have hc := h0.cell i hlt
        have hl0 : (0 : Int) ≤ (i : Int) := by omega
        have hl1 : (i : Int) < (n0 : Int) := by omega
        by_cases hm : lA i ≤ 1048576
        · have HS2 : Hid (s + lA i = n0 + su lA (i + 1)) := by show _ = _; have := HS.out; rw [su_succ]; omega
          generalize lA i = m at hc hm HS2
          by_cases hb1 : s + m ≤ 1048576
          · go_wp2
            go_roundg (n0 - (i + 1))
            case measure => omega
            case rel => exact ⟨i + 1, s + m, by omega, rfl, by go_num, by go_num, HS2.out, hb1, rfl⟩
          · go_wp2
            go_ret
            exact ⟨rfl, rfl⟩
        · generalize lA i = m at hc hm
          go_wp2
          go_ret
          exact ⟨rfl, rfl⟩
      · obtain rfl : i = n0 := by omega
        by_cases hn1 : n1 ≤ 1048576
        · by_cases hsn : s + n1 ≤ 1048576
          · go_wp2
            go_loopg [5, 7] n1 (fun k t q wr => ∃ j u : Nat, j ≤ n1 ∧ k = n1 - j ∧ t = .int .i64 (u : Int) ∧ q = .int .i64 (j : Int) ∧ u = s + n1 + su lR j ∧ u ≤ 1048576 ∧ w = wr)
            case atStart => exact ⟨0, s + n1, by omega, rfl, by go_num, rfl, rfl, hsn, rfl⟩
            case round =>
              obtain ⟨j, u, hj, rfl, rfl, rfl, hu, hub, rfl⟩ := hrel
              have HU : Hid (u = s + n1 + su lR j) := hu
              clear hu
              by_cases hlt2 : j < n1
              · obtain rfl := h1.at_ (by omega)
                have hc := h1.cell j hlt2
                have hl0 : (0 : Int) ≤ (j : Int) := by omega
                have hl1 : (j : Int) < (n1 : Int) := by omega
                by_cases hm : lR j ≤ 1048576
                · have HU2 : Hid (u + lR j = s + n1 + su lR (j + 1)) := by show _ = _; have := HU.out; rw [su_succ]; omega
                  generalize lR j = m at hc hm HU2
                  by_cases hb1 : u + m ≤ 1048576
                  · go_wp2
                    go_roundg (n1 - (j + 1))
                    case measure => omega
                    case rel => exact ⟨j + 1, u + m, by omega, rfl, by go_num, by go_num, HU2.out, hb1, rfl⟩
                  · go_wp2
                    go_ret
                    exact ⟨rfl, rfl⟩
                · generalize lR j = m at hc hm
                  go_wp2
                  go_ret
                  exact ⟨rfl, rfl⟩
              · obtain rfl : j = n1 := by omega
                exfalso
                have := HU.out; have := HS.out; have := HH.out; omega
          · go_wp2
            go_ret
            exact ⟨rfl, rfl⟩
        · go_wp2
          go_ret
          exact ⟨rfl, rfl⟩
  · go_enter Try.func14, Try.ntmps14
    go_wp2
    go_ret
    exact ⟨rfl, rfl⟩
end Go.Proofs.Qxb6604013a
