import Derived.Test.Qxb6604098aLaw4
namespace Go.Proofs.Qxb6604098a
open Go.RowKit
set_option linter.unusedVariables false
set_option linter.unusedSimpArgs false
attribute [local go_sem ↓] Go.wp_at_zero Go.wp_at_succ

theorem zskip_quoted (ao : Option Addr) (n c base l0 l1 E : Nat) (x : Bool) (A C : Nat → Int) (T xs : List Int) (w : World) (hown : Own w base (.slice ao n c) xs) (hn : n = xs.length)
    (hxs : xs = ((List.range l0).map A ++ (34 :: (qs C l1 ++ [34]))) ++ T) (hA : ∀ i, i < l0 → spaceB (A i) = true) (hnb : n ≤ 4194304) (hx : hbn C l1 = x) (hE : E = l0 + ((qs C l1).length + 2)) :
    Calls Try.prog 8 #[.slice ao n c, .int .i64 0] w fun e w' => e = .returned (.tuple #[.int .i64 (l0 : Int), .bool x, .int .i64 (E : Int)]) ∧ Below w.heap.size w w' := by
  obtain ⟨b, hB⟩ := hown.read hn
  obtain ⟨h1, h2, h3⟩ := quoted_law A C l0 l1 n T xs hxs hn hA
  have := zskipString_any ao n c b 0 0 (fun i => xs.getD i 0) w hnb (by omega) hB
  rw [h1, h2, h3, hx, ← hE] at this
  exact this

set_option maxHeartbeats 1000000 in
theorem law4_main (a0 a1 a2 : Option Addr) (l0 c0 l1 c1 l2 c2 b0 o0 b1 o1 b2 o2 : Nat) (A C T : Nat → Int) (w : World) (h0 : l0 ≤ 262144) (h1 : l1 ≤ 262144) (h2 : l2 ≤ 262144) (hA : IsBytes w a0 l0 b0 o0 A) (hC : IsBytes w a1 l1 b1 o1 C) (hT : IsBytes w a2 l2 b2 o2 T) :
    Calls Try.prog 4 #[.slice a0 l0 c0, .slice a1 l1 c1, .slice a2 l2 c2] w fun e w' => e = .returned (.bool true) ∧ Below w.heap.size w w' := by
  have hd0 : decide ((262144 : Int) < (l0 : Int)) = false := decide_eq_false (by omega)
  have hd1 : decide ((262144 : Int) < (l1 : Int)) = false := decide_eq_false (by omega)
  have hd2 : decide ((262144 : Int) < (l2 : Int)) = false := decide_eq_false (by omega)
  have HlA : Hid (0 < l0 → b0 < w.heap.size) := fun h => hA.lt h
  have HlC : Hid (0 < l1 → b1 < w.heap.size) := fun h => hC.lt h
  have HlT : Hid (0 < l2 → b2 < w.heap.size) := fun h => hT.lt h
  obtain ⟨x, HX⟩ : ∃ x, Hid (hbn C l1 = x) := ⟨_, rfl⟩
  obtain ⟨E, HE, hEb⟩ : ∃ E, Hid (E = l0 + ((qs C l1).length + 2)) ∧ E ≤ l0 + 2 * l1 + 2 := ⟨_, rfl, by have := (qs_length C l1).2; omega⟩
  obtain ⟨F, HF, hFb⟩ : ∃ F, Hid (F = E + l2) ∧ F ≤ 4194304 := ⟨_, rfl, by omega⟩
  go_enter Try.func4, Try.ntmps4
  go_wp2_with (go_at_call 10; refine (bytes10_yes _ _ _ _ _ _ _ _ _ _ (by omega)).mono ?_; rintro e w1 ⟨rfl, rfl⟩)
  go_loopg [7] l0 (fun k q wr => ∃ i : Nat, i ≤ l0 ∧ k = l0 - i ∧ q = .int .i64 (i : Int) ∧ (∀ j, j < i → spaceB (A j) = true) ∧ w = wr)
  case atStart => exact ⟨0, by omega, rfl, rfl, (fun j hj => by omega), rfl⟩
  case round =>
    obtain ⟨i, hi, rfl, rfl, hf, rfl⟩ := hrel
    have HS : Hid (∀ j, j < i → spaceB (A j) = true) := hf
    clear hf
    by_cases hlt : i < l0
    · obtain rfl := hA.1 (by omega)
      have hc : w.cell? ⟨b0, o0 + i, none⟩ = some (.int .u8 (A i)) := hA.2 i hlt
      have hl0 : (0 : Int) ≤ (i : Int) := by omega
      have hl1 : (i : Int) < (l0 : Int) := by omega
      cases hsp : spaceB (A i) with
      | true =>
        have HS2 : Hid (∀ j, j < i + 1 → spaceB (A j) = true) := fun j hj => by
          rcases Nat.lt_or_ge j i with h | h
          · exact HS.out j h
          · obtain rfl : j = i := by omega
            exact hsp
        go_wp2_with (go_at_call 11; refine (space_same _ _).mono ?_; rintro e w1 ⟨rfl, rfl⟩)
        go_roundg (l0 - (i + 1))
        case measure => omega
        case rel => exact ⟨i + 1, by omega, rfl, by go_num, HS2.out, rfl⟩
      | false =>
        go_wp2_with (go_at_call 11; refine (space_same _ _).mono ?_; rintro e w1 ⟨rfl, rfl⟩)
        go_ret
        exact ⟨rfl, Below.refl _ _⟩
    · obtain rfl : i = l0 := by omega
      go_wp2_with (first
        | (at_make; go_must (refine wpList_make_bytes (by rfl) _ _ (by rfl) (i + 2 * l1 + 2 + l2) (by rfl) (by first | rfl | (go_num) | (simp [go_sem]; omega)) (by omega) ?_; intro ao1 w1 ho1 hb1))
        | (at_builtin; refine wpList_append_at (by rfl) (.tmp 54) (.tmp 55) (by rfl) w.heap.size ao1 0 _ [] rfl (by rfl) ho1 a0 i c0 b0 o0 A (by rfl) (hA.under hb1 HlA.out) (by omega) hb1.size i (by omega) ?_; intro ao2 c2' w2 ho2 hb2)
        | (go_at_call 12; refine (appendQuoted_at ao2 a1 c2' l1 c1 w.heap.size b1 o1 i E _ C _ (by simp) HE.out ho2 (hC.under (hb1.trans hb2) HlC.out) HlC.out (Nat.le_trans hb1.size hb2.size) (by omega)).mono ?_; rintro e w3 ⟨ao3, c3, rfl, ho3, hb3⟩)
        | (at_builtin; refine wpList_append_at (by rfl) (.tmp 62) (.tmp 63) (by rfl) w.heap.size ao3 E c3 _ (by have := HE.out; simp; omega) (by rfl) ho3 a2 l2 c2 b2 o2 T (by rfl) (hT.under ((hb1.trans hb2).trans hb3) HlT.out) (by omega) (Nat.le_trans (Nat.le_trans hb1.size hb2.size) hb3.size) F HF.out ?_; intro ao4 c4 w4 ho4 hb4)
        | (go_at_call 8; refine (zskip_quoted ao4 F c4 w.heap.size i l1 E x A C _ _ w4 ho4 (by have := HE.out; have := HF.out; simp; omega) (by simp; rfl) HS.out (by omega) HX.out HE.out).mono ?_; rintro e w5 ⟨rfl, hb5⟩)
        | (go_at_call 13; refine (holds_any a1 l1 c1 b1 o1 C _ (by omega) (hC.under ((((hb1.trans hb2).trans hb3).trans hb4).trans (hb5.mono (Nat.le_trans (Nat.le_trans (Nat.le_trans hb1.size hb2.size) hb3.size) hb4.size))) HlC.out)).mono ?_; rw [HX.out]; rintro e w6 ⟨rfl, rfl⟩))
      go_ret
      exact ⟨rfl, (((hb1.trans hb2).trans hb3).trans hb4).trans (hb5.mono (Nat.le_trans (Nat.le_trans (Nat.le_trans hb1.size hb2.size) hb3.size) hb4.size))⟩

theorem law4_any (a0 a1 a2 : Option Addr) (l0 c0 l1 c1 l2 c2 b0 o0 b1 o1 b2 o2 : Nat) (A C T : Nat → Int) (w : World) (hA : IsBytes w a0 l0 b0 o0 A) (hC : IsBytes w a1 l1 b1 o1 C) (hT : IsBytes w a2 l2 b2 o2 T) :
    Calls Try.prog 4 #[.slice a0 l0 c0, .slice a1 l1 c1, .slice a2 l2 c2] w fun e w' => e = .returned (.bool true) ∧ Below w.heap.size w w' := by
  by_cases h : 262144 < l0 ∨ 262144 < l1 ∨ 262144 < l2
  · refine (law4_out a0 a1 a2 l0 c0 l1 c1 l2 c2 w h).mono ?_
    rintro e w' ⟨rfl, rfl⟩
    exact ⟨rfl, Below.refl _ _⟩
  · exact law4_main a0 a1 a2 l0 c0 l1 c1 l2 c2 b0 o0 b1 o1 b2 o2 A C T w (by omega) (by omega) (by omega) hA hC hT
end Go.Proofs.Qxb6604098a
