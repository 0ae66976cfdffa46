import Derived.Test.Qxb6604098aPlain3
import Derived.Test.Qxb6604098aLaw4
import Derived.Test.Qxb6604098aLaw5
namespace Go.Proofs.Qxb6604098a
open Go.RowKit
set_option linter.unusedVariables false
set_option linter.unusedSimpArgs false
attribute [local go_sem ↓] Go.wp_at_zero Go.wp_at_succ

/-- A slice of byte slices, as a walk reads it. -/
structure IsTexts (w : World) (a : Option Addr) (n b off : Nat) (aA : Nat → Option Addr) (lA cA bA oA : Nat → Nat) (C : Nat → Nat → Int) : Prop where
  at_ : 0 < n → a = some ⟨b, off, none⟩
  cell : ∀ i, i < n → w.cell? ⟨b, off + i, none⟩ = some (.slice (aA i) (lA i) (cA i))
  item : ∀ i, i < n → IsBytes w (aA i) (lA i) (bA i) (oA i) (C i)
theorem IsTexts.lt {w : World} {a : Option Addr} {n b off : Nat} {aA : Nat → Option Addr} {lA cA bA oA : Nat → Nat} {C : Nat → Nat → Int} (h : IsTexts w a n b off aA lA cA bA oA C) (hn : 0 < n) : b < w.heap.size := World.block_lt_of_cell? w ⟨b, _, none⟩ (h.cell 0 hn)

set_option maxHeartbeats 1000000 in
theorem bytes17_yes (a0 a2 : Option Addr) (n c0 l2 c2 b off : Nat) (nest : Int) (aA : Nat → Option Addr) (lA cA bA oA : Nat → Nat) (C : Nat → Nat → Int) (w : World) (hX : IsTexts w a0 n b off aA lA cA bA oA C) (h : n + su lA n + l2 ≤ 1048576) :
    Calls Try.prog 17 #[.slice a0 n c0, .int .i64 nest, .slice a2 l2 c2] w fun e w' => e = .returned (.bool true) ∧ w = w' := by
  go_enter Try.func17, Try.ntmps17
  go_wp2
  go_loopg [7, 8] n (fun k t q wr => ∃ i s : Nat, i ≤ n ∧ k = n - i ∧ t = .int .i64 (s : Int) ∧ q = .int .i64 (i : Int) ∧ s = n + su lA i ∧ w = wr)
  case atStart => exact ⟨0, n, by omega, rfl, by go_num, rfl, rfl, rfl⟩
  case round =>
    obtain ⟨i, s, hi, rfl, rfl, rfl, hs, rfl⟩ := hrel
    have HS : Hid (s = n + su lA i) := hs
    have hsb : s + l2 ≤ 1048576 := by have := su_mono lA n hi; omega
    clear hs
    by_cases hlt : i < n
    · obtain rfl := hX.at_ (by omega)
      have hc := hX.cell i hlt
      have hl0 : (0 : Int) ≤ (i : Int) := by omega
      have hl1 : (i : Int) < (n : Int) := by omega
      have hb1 : s + lA i ≤ 1048576 := by have := su_at lA hlt; have := HS.out; omega
      have HS2 : Hid (s + lA i = n + su lA (i + 1)) := by show _ = _; have := HS.out; rw [su_succ]; omega
      generalize lA i = m at hc hb1 HS2
      go_wp2
      go_roundg (n - (i + 1))
      case measure => omega
      case rel => exact ⟨i + 1, s + m, by omega, rfl, by go_num, by go_num, HS2.out, rfl⟩
    · obtain rfl : i = n := by omega
      go_wp2
      go_ret
      exact ⟨rfl, rfl⟩

set_option maxHeartbeats 1000000 in
theorem bytes17_no (a0 a2 : Option Addr) (n c0 l2 c2 b off : Nat) (nest : Int) (aA : Nat → Option Addr) (lA cA bA oA : Nat → Nat) (C : Nat → Nat → Int) (w : World) (hX : IsTexts w a0 n b off aA lA cA bA oA C) (h : 1048576 < n + su lA n + l2) :
    Calls Try.prog 17 #[.slice a0 n c0, .int .i64 nest, .slice a2 l2 c2] w fun e w' => e = .returned (.bool false) ∧ w = w' := by
  by_cases hn : n ≤ 1048576
  · go_enter Try.func17, Try.ntmps17
    go_wp2
    go_loopg [7, 8] n (fun k t q wr => ∃ i s : Nat, i ≤ n ∧ k = n - i ∧ t = .int .i64 (s : Int) ∧ q = .int .i64 (i : Int) ∧ s = n + su lA i ∧ s ≤ 1048576 ∧ w = wr)
    case atStart => exact ⟨0, n, by omega, rfl, by go_num, rfl, rfl, hn, rfl⟩
    case round =>
      obtain ⟨i, s, hi, rfl, rfl, rfl, hs, hsb, rfl⟩ := hrel
      have HS : Hid (s = n + su lA i) := hs
      clear hs
      by_cases hlt : i < n
      · obtain rfl := hX.at_ (by omega)
        have hc := hX.cell i hlt
        have hl0 : (0 : Int) ≤ (i : Int) := by omega
        have hl1 : (i : Int) < (n : Int) := by omega
        by_cases h1 : lA i ≤ 1048576
        · by_cases h2 : s + lA i ≤ 1048576
          · have HS2 : Hid (s + lA i = n + su lA (i + 1)) := by show _ = _; have := HS.out; rw [su_succ]; omega
            generalize lA i = m at hc h1 h2 HS2
            go_wp2
            go_roundg (n - (i + 1))
            case measure => omega
            case rel => exact ⟨i + 1, s + m, by omega, rfl, by go_num, by go_num, HS2.out, h2, rfl⟩
          · go_wp2
            go_ret
            exact ⟨rfl, rfl⟩
        · go_wp2
          go_ret
          exact ⟨rfl, rfl⟩
      · obtain rfl : i = n := by omega
        have h3 : 1048576 < s + l2 := by have := HS.out; omega
        by_cases h4 : l2 ≤ 1048576
        · go_wp2
          go_ret
          exact ⟨rfl, rfl⟩
        · go_wp2
          go_ret
          exact ⟨rfl, rfl⟩
  · go_enter Try.func17, Try.ntmps17
    go_wp2
    go_ret
    exact ⟨rfl, rfl⟩

set_option maxHeartbeats 1000000 in
theorem law6_out (a0 a2 : Option Addr) (n c0 l2 c2 b off : Nat) (nest : Int) (aA : Nat → Option Addr) (lA cA bA oA : Nat → Nat) (C : Nat → Nat → Int) (w : World) (hX : IsTexts w a0 n b off aA lA cA bA oA C) (h : 1048576 < n + su lA n + l2 ∨ 65536 < n) :
    Calls Try.prog 6 #[.slice a0 n c0, .int .i64 nest, .slice a2 l2 c2] w fun e w' => e = .returned (.bool true) ∧ w = w' := by
  by_cases hs : n + su lA n + l2 ≤ 1048576
  · have h0 : 65536 < n := by omega
    have hd0 : decide ((65536 : Int) < (n : Int)) = true := decide_eq_true (by omega)
    go_enter Try.func6, Try.ntmps6
    go_wp2_with (go_at_call 17; refine (bytes17_yes _ _ _ _ _ _ b off _ aA lA cA bA oA C _ hX hs).mono ?_; rintro e w1 ⟨rfl, rfl⟩)
    go_ret
    exact ⟨rfl, rfl⟩
  · go_enter Try.func6, Try.ntmps6
    go_wp2_with (go_at_call 17; refine (bytes17_no _ _ _ _ _ _ b off _ aA lA cA bA oA C _ hX (by omega)).mono ?_; rintro e w1 ⟨rfl, rfl⟩)
    go_ret
    exact ⟨rfl, rfl⟩

theorem zskip_array (ao : Option Addr) (n c base m k E : Nat) (C : Nat → Nat → Int) (l : Nat → Nat) (T xs : List Int) (w : World) (hown : Own w base (.slice ao n c) xs) (hn : n = xs.length)
    (hxs : xs = ((List.replicate (m + 1) 91 ++ js C l k) ++ List.replicate (m + 1) 93) ++ T) (hnb : n ≤ 4194304) (hE : E = (m + 1) + (js C l k).length + (m + 1)) :
    Calls Try.prog 15 #[.slice ao n c, .int .i64 0] w fun e w' => e = .returned (.int .i64 (E : Int)) ∧ Below w.heap.size w w' := by
  obtain ⟨b, hB⟩ := hown.read hn
  have := zskipNested_any ao n c b 0 0 (fun i => xs.getD i 0) w hnb (by omega) hB
  rw [array_law C l m k n T xs hxs hn, ← hE] at this
  exact this

theorem rep_snoc (m : Nat) (c : Int) : List.replicate m c ++ (List.range 1).map (fun _ => c) = List.replicate (m + 1) c := by
  rw [List.replicate_succ']; simp
end Go.Proofs.Qxb6604098a
