import Derived.Test.Qxb6604098aLaw6
namespace Go.Proofs.Qxb6604098a
open Go.RowKit
set_option linter.unusedVariables false
set_option linter.unusedSimpArgs false
attribute [local go_sem ↓] Go.wp_at_zero Go.wp_at_succ

set_option maxHeartbeats 2000000 in
theorem law6_main (a0 a2 : Option Addr) (n c0 l2 c2 b off b2 o2 : Nat) (nest : Int) (aA : Nat → Option Addr) (lA cA bA oA : Nat → Nat) (C : Nat → Nat → Int) (T : Nat → Int) (w : World) (hX : IsTexts w a0 n b off aA lA cA bA oA C) (hT : IsBytes w a2 l2 b2 o2 T)
    (hs : n + su lA n + l2 ≤ 1048576) (hn : n ≤ 65536) :
    Calls Try.prog 6 #[.slice a0 n c0, .int .i64 nest, .slice a2 l2 c2] w fun e w' => e = .returned (.bool true) ∧ Below w.heap.size w w' := by
  have hd0 : decide ((65536 : Int) < (n : Int)) = false := decide_eq_false (by omega)
  have hd1 : decide ((1048576 : Int) < (l2 : Int)) = false := decide_eq_false (by omega)
  have HS : Hid (n + su lA n + l2 ≤ 1048576) := hs
  have hl2 : l2 ≤ 1048576 := by omega
  have HlX : Hid (0 < n → b < w.heap.size) := fun h => hX.lt h
  have HlT : Hid (0 < l2 → b2 < w.heap.size) := fun h => hT.lt h
  clear hs
  go_enter Try.func6, Try.ntmps6
  go_wp2_with (go_at_call 17; refine (bytes17_yes _ _ _ _ _ _ b off _ aA lA cA bA oA C _ hX HS.out).mono ?_; rintro e w1 ⟨rfl, rfl⟩)
  go_loopg [7, 8] n (fun k t q wr => ∃ i s : Nat, i ≤ n ∧ k = n - i ∧ t = .int .i64 (s : Int) ∧ q = .int .i64 (i : Int) ∧ s = l2 + 24 * n + su lA i ∧ w = wr)
  case atStart => exact ⟨0, l2 + 24 * n, by omega, rfl, by go_num, rfl, rfl, rfl⟩
  case round =>
    obtain ⟨i, s, hi, rfl, rfl, rfl, hs, rfl⟩ := hrel
    have HU : Hid (s = l2 + 24 * n + su lA i) := hs
    have hsb : s ≤ 3670016 := by have := su_mono lA n hi; have := HS.out; omega
    clear hs
    by_cases hlt : i < n
    · obtain rfl := hX.at_ (by omega)
      have hc := hX.cell i hlt
      have hl0 : (0 : Int) ≤ (i : Int) := by omega
      have hl1 : (i : Int) < (n : Int) := by omega
      have h1 : lA i ≤ 1048576 := by have := su_at lA hlt; have := HS.out; omega
      by_cases h2 : s + lA i ≤ 1048576
      · have HU2 : Hid (s + lA i = l2 + 24 * n + su lA (i + 1)) := by show _ = _; have := HU.out; rw [su_succ]; omega
        generalize lA i = m at hc h1 h2 HU2
        go_wp2
        go_roundg (n - (i + 1))
        case measure => omega
        case rel => exact ⟨i + 1, s + m, by omega, rfl, by go_num, by go_num, HU2.out, rfl⟩
      · generalize lA i = m at hc h1 h2
        go_wp2
        go_ret
        exact ⟨rfl, Below.refl _ _⟩
    · obtain rfl : i = n := by omega
      by_cases h2 : s ≤ 1048576
      · by_cases h3 : nest < 0
        · go_wp2
          go_ret
          exact ⟨rfl, Below.refl _ _⟩
        · have hd3 : decide (nest < 0) = false := decide_eq_false h3
          by_cases h4 : 65536 < nest
          · have hd4 : decide (65536 < nest) = true := decide_eq_true h4
            go_wp2
            go_ret
            exact ⟨rfl, Below.refl _ _⟩
          · have hd4 : decide (65536 < nest) = false := decide_eq_false h4
            obtain ⟨m, rfl⟩ : ∃ m : Nat, nest = (m : Int) := ⟨nest.toNat, by omega⟩
            have hm : m ≤ 65536 := by omega
            clear h3 h4
            go_wp2
            have hsu : su lA i + l2 + 24 * i ≤ 1048576 := by have := HU.out; omega
            clear HU h2 hsb
            go_loopg [9, 10] (m + 1) (fun k t q wr => ∃ (j : Nat) (ao : Option Addr) (c : Nat), j ≤ m + 1 ∧ k = m + 1 - j ∧ t = .slice ao j c ∧ q = .int .i64 (j : Int) ∧ Own wr w.heap.size (.slice ao j c) (List.replicate j 91) ∧ Below w.heap.size w wr)
            case atStart => exact ⟨0, none, 0, by omega, rfl, rfl, rfl, Own.nil _ _, Below.refl _ _⟩
            case round =>
              obtain ⟨j, ao, c, hj, rfl, rfl, rfl, hO, hbel⟩ := hrel
              by_cases hjm : j ≤ m
              · have hji : (j : Int) ≤ (m : Int) := by omega
                go_wp2_with (at_builtin; refine wpList_append_at (by rfl) (.tmp 61) (.tmp 62) (by rfl) w.heap.size ao j c _ (by simp) (by rfl) (hO.alloc _) _ 1 1 wr.heap.size 0 (fun _ => 91) (by rfl) (one_byte wr 91) (by omega) (by have := hbel.size; simp; omega) (j + 1) rfl ?_; rw [rep_snoc]; intro ao3 c3 w3 hown3 hb3)
                go_roundg (m + 1 - (j + 1))
                case measure => omega
                case rel => exact ⟨j + 1, ao3, c3, by omega, rfl, rfl, by go_num, hown3, (hbel.alloc hbel.size _).trans hb3⟩
              · obtain rfl : j = m + 1 := by omega
                have hji : ¬ ((m + 1 : Nat) : Int) ≤ (m : Int) := by omega
                clear hjm
                have hown0 : Own wr w.heap.size (.slice ao (m + 1) c) (List.replicate (m + 1) 91 ++ js C lA 0) := by simpa [js] using hO
                clear hO
                go_wp2
                go_loopg [9, 11] i (fun k t q wr => ∃ (j N : Nat) (ao : Option Addr) (c : Nat), j ≤ i ∧ k = i - j ∧ t = .slice ao N c ∧ q = .int .i64 (j : Int) ∧ N = (List.replicate (m + 1) 91 ++ js C lA j).length ∧ Own wr w.heap.size (.slice ao N c) (List.replicate (m + 1) 91 ++ js C lA j) ∧ Below w.heap.size w wr)
                case atStart => exact ⟨0, m + 1, ao, c, by omega, rfl, rfl, rfl, by simp [js], hown0, hbel⟩
                case round =>
                  clear hown0 hbel hji
                  obtain ⟨j, N, ao, c, hj, rfl, rfl, rfl, hN, hO, hbel⟩ := hrel
                  have HN : Hid (N = (List.replicate (m + 1) 91 ++ js C lA j).length) := hN
                  have hNb : N ≤ m + 1 + 2 * su lA j + 3 * j := by rw [hN]; have := js_length C lA j; simp; omega
                  have hsz := hbel.size
                  clear hN
                  by_cases hlt2 : j < i
                  · obtain rfl := hX.at_ (by omega)
                    have hc : wr.cell? ⟨b, off + j, none⟩ = some (.slice (aA j) (lA j) (cA j)) := (hbel.cell (p := ⟨b, off + j, none⟩) (HlX.out (by omega))).trans (hX.cell j hlt2)
                    have hl0 : (0 : Int) ≤ (j : Int) := by omega
                    have hl1 : (j : Int) < (i : Int) := by omega
                    have hIt := hX.item j hlt2
                    have HIl : Hid (0 < lA j → bA j < w.heap.size) := fun h => hIt.lt h
                    have hb1 : N + 1 + 2 * lA j + 2 ≤ 4194304 := by have := su_at lA hlt2; omega
                    obtain ⟨Z, HZ⟩ : ∃ Z, Hid (Z = (qs (C j) (lA j)).length + 2) := ⟨_, rfl⟩
                    by_cases hj0 : j = 0
                    · have hdj : ¬ (0 : Int) < (j : Int) := by omega
                      have HJ : Hid (js C lA (j + 1) = js C lA j ++ (34 :: (qs (C j) (lA j) ++ [34]))) := by show _ = _; rw [js_succ, it, if_pos hj0, List.nil_append]
                      clear hj0
                      go_wp2_with (go_at_call 12; refine (appendQuoted_at ao (aA j) c (lA j) (cA j) w.heap.size (bA j) (oA j) N (N + Z) _ (C j) _ HN.out (by rw [HZ.out]) hO (hIt.under hbel HIl.out) HIl.out hsz (by omega)).mono ?_; rintro e w3 ⟨ao3, c3, rfl, ho3, hb3⟩)
                      go_roundg (i - (j + 1))
                      case measure => omega
                      case rel =>
                        refine ⟨j + 1, N + Z, ao3, c3, by omega, rfl, rfl, by go_num, ?_, ?_, hbel.trans hb3⟩
                        · rw [HJ.out]; have := HN.out; have := HZ.out; simp at *; omega
                        · rw [HJ.out, ← List.append_assoc]; exact ho3
                    · have hdj : decide ((0 : Int) < (j : Int)) = true := decide_eq_true (by omega)
                      have hj1 : (0 : Int) < (j : Int) := by omega
                      have HJ : Hid (js C lA (j + 1) = js C lA j ++ ([44] ++ (34 :: (qs (C j) (lA j) ++ [34])))) := by show _ = _; rw [js_succ, it, if_neg hj0]
                      clear hj0
                      go_wp2_with (first
                        | (at_builtin; (refine wpList_append_at (by rfl) (.tmp 72) (.tmp 73) (by rfl) w.heap.size ao N c _ HN.out (by rfl) (hO.alloc _) _ 1 1 wr.heap.size 0 (fun _ => 44) (by rfl) (one_byte wr 44) (by omega) (by simp; omega) (N + 1) rfl ?_; intro ao2 c2' w2 ho2 hb2; have hc2 : w2.cell? ⟨b, off + j, none⟩ = some (.slice (aA j) (lA j) (cA j)) := (((hbel.alloc hsz _).trans hb2).cell (p := ⟨b, off + j, none⟩) (HlX.out (by omega))).trans (hX.cell j hlt2)))
                        | (go_at_call 12; refine (appendQuoted_at ao2 (aA j) c2' (lA j) (cA j) w.heap.size (bA j) (oA j) (N + 1) (N + 1 + Z) _ (C j) _ (by have := HN.out; simp at this ⊢; omega) (by rw [HZ.out]) ho2 (hIt.under ((hbel.alloc hsz _).trans hb2) HIl.out) HIl.out ((hbel.alloc hsz _).trans hb2).size (by omega)).mono ?_; rintro e w3 ⟨ao3, c3, rfl, ho3, hb3⟩))
                      go_roundg (i - (j + 1))
                      case measure => omega
                      case rel =>
                        refine ⟨j + 1, N + 1 + Z, ao3, c3, by omega, rfl, rfl, by go_num, ?_, ?_, ((hbel.alloc hsz _).trans hb2).trans hb3⟩
                        · rw [HJ.out]; have := HN.out; have := HZ.out; simp at *; omega
                        · rw [HJ.out]; simpa using ho3
                  · obtain rfl : j = i := by omega
                    obtain ⟨P, HP⟩ : ∃ P, Hid (P = List.replicate (m + 1) 91 ++ js C lA j) := ⟨List.replicate (m + 1) 91 ++ js C lA j, (rfl : _ = _)⟩
                    have hown0 : Own wr w.heap.size (.slice ao N c) (P ++ List.replicate 0 93) := by rw [HP.out]; simpa using hO
                    have HNP : Hid (N = P.length) := by show _ = _; rw [HP.out]; exact HN.out
                    clear hO
                    go_wp2
                    go_loopg [9, 12] (m + 1) (fun k t q wr => ∃ (i N' : Nat) (ao : Option Addr) (c : Nat), i ≤ m + 1 ∧ k = m + 1 - i ∧ t = .slice ao N' c ∧ q = .int .i64 (i : Int) ∧ N' = N + i ∧ Own wr w.heap.size (.slice ao N' c) (P ++ List.replicate i 93) ∧ Below w.heap.size w wr)
                    case atStart => exact ⟨0, N, ao, c, by omega, rfl, rfl, rfl, by omega, hown0, hbel⟩
                    case round =>
                      clear hown0 hbel hsz
                      obtain ⟨i, N', ao, c, hi3, rfl, rfl, rfl, hN', hO, hbel⟩ := hrel
                      have HN' : Hid (N' = N + i) := hN'
                      have hNb' : N' ≤ N + i := by omega
                      clear hN'
                      have hsz := hbel.size
                      by_cases him : i ≤ m
                      · have hji : (i : Int) ≤ (m : Int) := by omega
                        go_wp2_with (at_builtin; refine wpList_append_at (by rfl) (.tmp 86) (.tmp 87) (by rfl) w.heap.size ao N' c _ (by have := HNP.out; have := HN'.out; simp; omega) (by rfl) (hO.alloc _) _ 1 1 wr.heap.size 0 (fun _ => 93) (by rfl) (one_byte wr 93) (by omega) (by simp; omega) (N' + 1) rfl ?_; rw [List.append_assoc, rep_snoc]; intro ao3 c3 w3 hown3 hb3)
                        go_roundg (m + 1 - (i + 1))
                        case measure => omega
                        case rel => exact ⟨i + 1, N' + 1, ao3, c3, by omega, rfl, rfl, by go_num, by have := HN'.out; omega, hown3, (hbel.alloc hsz _).trans hb3⟩
                      · obtain rfl : i = m + 1 := by omega
                        have hji : ¬ ((m + 1 : Nat) : Int) ≤ (m : Int) := by omega
                        have hji2 : (m : Int) < ((m + 1 : Nat) : Int) := by omega
                        have HE : Hid (N' = (m + 1) + (js C lA j).length + (m + 1)) := by show _ = _; rw [HN'.out, HN.out]; simp
                        obtain ⟨F, HF, hFb⟩ : ∃ F, Hid (F = N' + l2) ∧ F ≤ 4194304 := ⟨_, rfl, by omega⟩
                        go_wp2_with (first
                          | (at_builtin; refine wpList_append_at (by rfl) (.tmp 91) (.tmp 92) (by rfl) w.heap.size ao N' c _ (by have := HNP.out; have := HN'.out; simp; omega) (by rfl) hO a2 l2 c2 b2 o2 T (by rfl) (hT.under hbel HlT.out) (by have := HF.out; omega) hsz F HF.out ?_; intro ao4 c4 w4 ho4 hb4)
                          | (go_at_call 15; refine (zskip_array ao4 F c4 w.heap.size m j N' C lA _ _ w4 ho4 (by have := HNP.out; have := HN'.out; have := HF.out; simp; omega) (by rw [HP.out]) (by omega) HE.out).mono ?_; rintro e w5 ⟨rfl, hb5⟩))
                        go_ret
                        exact ⟨rfl, (hbel.trans hb4).trans (hb5.mono (hbel.trans hb4).size)⟩
      · go_wp2
        go_ret
        exact ⟨rfl, Below.refl _ _⟩

theorem law6_any (a0 a2 : Option Addr) (n c0 l2 c2 b off b2 o2 : Nat) (nest : Int) (aA : Nat → Option Addr) (lA cA bA oA : Nat → Nat) (C : Nat → Nat → Int) (T : Nat → Int) (w : World) (hX : IsTexts w a0 n b off aA lA cA bA oA C) (hT : IsBytes w a2 l2 b2 o2 T) :
    Calls Try.prog 6 #[.slice a0 n c0, .int .i64 nest, .slice a2 l2 c2] w fun e w' => e = .returned (.bool true) ∧ Below w.heap.size w w' := by
  by_cases h : 1048576 < n + su lA n + l2 ∨ 65536 < n
  · refine (law6_out a0 a2 n c0 l2 c2 b off nest aA lA cA bA oA C w hX h).mono ?_
    rintro e w' ⟨rfl, rfl⟩
    exact ⟨rfl, Below.refl _ _⟩
  · exact law6_main a0 a2 n c0 l2 c2 b off b2 o2 nest aA lA cA bA oA C T w hX hT (by omega) (by omega)
end Go.Proofs.Qxb6604098a
