import Derived.Test.Qxb6604098aWalk1
namespace Go.Proofs.Qxb6604098a
open Go.RowKit
set_option linter.unusedVariables false
set_option linter.unusedSimpArgs false
attribute [local go_sem ↓] Go.wp_at_zero Go.wp_at_succ

theorem space_same (c : Int) (w : World) : Calls Try.prog 11 #[.int .u8 c] w fun e w' => e = .returned (.bool (spaceB c)) ∧ w = w' := (space_any c w).mono (fun e w' h => ⟨h.1, h.2.symm⟩)

/-- Where the walker would stand: behind an odd run of backslashes one byte is escaped. -/
def jj (r j : Nat) : Nat := if r % 2 = 0 then j else j + 1
theorem jj_even {r : Nat} (j : Nat) (h : r % 2 = 0) : jj r j = j := if_pos h
theorem jj_odd {r : Nat} (j : Nat) (h : r % 2 = 1) : jj r j = j + 1 := if_neg (by omega)

set_option maxHeartbeats 2000000 in
theorem modelString_any (a : Option Addr) (n c b off i0 : Nat) (B : Nat → Int) (w : World) (hn : n ≤ 4194304) (hi0 : i0 ≤ n) (hB : IsBytes w a n b off B) :
    Calls Try.prog 9 #[.slice a n c, .int .i64 (i0 : Int)] w fun e w' => e = .returned (.tuple #[.int .i64 ((ws B n i0 : Nat) : Int), .bool (ge B n (ws B n i0 + 1)), .int .i64 ((g B n (ws B n i0 + 1) : Nat) : Int)]) ∧ w = w' := by
  obtain ⟨s, hs⟩ : ∃ s, ws B n i0 = s := ⟨_, rfl⟩
  obtain ⟨gg, hgg⟩ : ∃ gg, g B n (s + 1) = gg := ⟨_, rfl⟩
  obtain ⟨ee, hee⟩ : ∃ ee, ge B n (s + 1) = ee := ⟨_, rfl⟩
  have HS : Hid (ws B n i0 = s ∧ g B n (s + 1) = gg ∧ ge B n (s + 1) = ee) := ⟨hs, hgg, hee⟩
  rw [hs, hgg, hee]
  clear hs hgg hee
  go_enter Try.func9, Try.ntmps9
  go_wp2
  go_loopg [7] (n - i0) (fun k q wr => ∃ i : Nat, i ≤ n ∧ k = n - i ∧ q = .int .i64 (i : Int) ∧ ws B n i = s ∧ w = wr)
  case atStart => exact ⟨i0, hi0, rfl, rfl, HS.out.1, rfl⟩
  case round =>
    obtain ⟨i, hi, rfl, rfl, hws, rfl⟩ := hrel
    have HW : Hid (ws B n i = s) := hws
    clear hws
    by_cases hlt : i < n
    · obtain rfl := hB.1 (by omega)
      have hc : w.cell? ⟨b, off + i, none⟩ = some (.int .u8 (B i)) := hB.2 i hlt
      have hl0 : (0 : Int) ≤ (i : Int) := by omega
      have hl1 : (i : Int) < (n : Int) := by omega
      by_cases hsp : spaceB (B i) = true
      · have HW2 : Hid (ws B n (i + 1) = s) := (ws_yes B hlt hsp).symm.trans HW.out
        go_wp2_with (go_at_call 11; refine (space_same _ _).mono ?_; rintro e w1 ⟨rfl, rfl⟩)
        go_roundg (n - (i + 1))
        case measure => omega
        case rel => exact ⟨i + 1, by omega, rfl, by go_num, HW2.out, rfl⟩
      · have hsf : spaceB (B i) = false := by simpa using hsp
        have hsi : s = i := HW.out.symm.trans (ws_no B (fun _ => hsf))
        subst hsi
        clear hsp
        go_wp2_with (go_at_call 11; refine (space_same _ _).mono ?_; rintro e w1 ⟨rfl, rfl⟩)
        clear hc hsf
        go_loopg [5, 8, 9] (n - (s + 1)) (fun k es rn jn wr => ∃ (esc : Bool) (r j : Nat), s + 1 ≤ j ∧ j ≤ n ∧ r ≤ j ∧ k = n - j ∧ es = .bool esc ∧ rn = .int .i64 (r : Int) ∧ jn = .int .i64 (j : Int) ∧ g B n (jj r j) = gg ∧ (esc || ge B n (jj r j)) = ee ∧ (r % 2 = 1 → esc = true) ∧ w = wr)
        case atStart => exact ⟨false, 0, s + 1, Nat.le_refl _, by omega, by omega, rfl, rfl, rfl, by go_num, by rw [jj_even _ rfl]; exact HS.out.2.1, by rw [jj_even _ rfl]; simpa using HS.out.2.2, (fun h => by omega), rfl⟩
        case round =>
          obtain ⟨esc, r, j, hj1, hj2, hr, rfl, rfl, rfl, rfl, hg, he, hodd, rfl⟩ := hrel
          have HG : Hid (g B n (jj r j) = gg ∧ (esc || ge B n (jj r j)) = ee ∧ (r % 2 = 1 → esc = true)) := ⟨hg, he, hodd⟩
          clear hg he hodd
          by_cases hjl : j < n
          · have hc : w.cell? ⟨b, off + j, none⟩ = some (.int .u8 (B j)) := hB.2 j hjl
            have hl0 : (0 : Int) ≤ (j : Int) := by omega
            have hl1 : (j : Int) < (n : Int) := by omega
            by_cases h34 : B j = 34
            · by_cases hp : r % 2 = 0
              · have hgj : gg = j + 1 := by rw [← HG.out.1, jj_even _ hp]; exact g_quote B hjl h34
                have hej : ee = esc := by rw [← HG.out.2.1, jj_even _ hp, ge_quote B hjl h34]; simp
                subst hgj; subst hej
                go_wp2
                go_ret3
                exact ⟨by first | rfl | (congr 1), rfl⟩
              · have HG2 : Hid (g B n (jj 0 (j + 1)) = gg ∧ (esc || ge B n (jj 0 (j + 1))) = ee ∧ (0 % 2 = 1 → esc = true)) := by
                  have h1 := HG.out
                  rw [jj_odd _ (by omega : r % 2 = 1)] at h1
                  rw [jj_even _ rfl]
                  exact ⟨h1.1, h1.2.1, fun h => by omega⟩
                go_wp2
                go_roundg (n - (j + 1))
                case measure => omega
                case rel => exact ⟨esc, 0, j + 1, by omega, by omega, by omega, rfl, rfl, rfl, by go_num, HG2.out.1, HG2.out.2.1, HG2.out.2.2, rfl⟩
            · by_cases h92 : B j = 92
              · have HG2 : Hid (g B n (jj (r + 1) (j + 1)) = gg ∧ (true || ge B n (jj (r + 1) (j + 1))) = ee) := by
                  have h1 := HG.out
                  by_cases hp : r % 2 = 0
                  · rw [jj_even _ hp, g_back B hjl h92, ge_back B hjl h92] at h1
                    rw [jj_odd _ (by omega : (r + 1) % 2 = 1)]
                    exact ⟨h1.1, by simp [← h1.2.1]⟩
                  · rw [jj_odd _ (by omega : r % 2 = 1)] at h1
                    rw [jj_even _ (by omega : (r + 1) % 2 = 0)]
                    refine ⟨h1.1, ?_⟩
                    simp [← h1.2.1, h1.2.2 (by omega)]
                go_wp2
                go_roundg (n - (j + 1))
                case measure => omega
                case rel => exact ⟨true, r + 1, j + 1, by omega, by omega, by omega, rfl, rfl, by go_num, by go_num, HG2.out.1, HG2.out.2, fun _ => rfl, rfl⟩
              · have h1 : (B j == 92) = false := by simp [h92]
                have h2 : (B j == 34) = false := by simp [h34]
                have HG2 : Hid (g B n (jj 0 (j + 1)) = gg ∧ (esc || ge B n (jj 0 (j + 1))) = ee ∧ (0 % 2 = 1 → esc = true)) := by
                  have h1 := HG.out
                  rw [jj_even _ rfl]
                  by_cases hp : r % 2 = 0
                  · rw [jj_even _ hp, g_other B hjl h92 h34, ge_other B hjl h92 h34] at h1
                    exact ⟨h1.1, h1.2.1, fun h => by omega⟩
                  · rw [jj_odd _ (by omega : r % 2 = 1)] at h1
                    exact ⟨h1.1, h1.2.1, fun h => by omega⟩
                go_wp2
                go_roundg (n - (j + 1))
                case measure => omega
                case rel => exact ⟨esc, 0, j + 1, by omega, by omega, by omega, rfl, rfl, rfl, by go_num, HG2.out.1, HG2.out.2.1, HG2.out.2.2, rfl⟩
          · obtain rfl : j = n := by omega
            by_cases hp : r % 2 = 0
            · have hgj : gg = j := by rw [← HG.out.1, jj_even _ hp]; exact g_end B (Nat.le_refl _)
              have hej : ee = esc := by rw [← HG.out.2.1, jj_even _ hp, ge_end B (Nat.le_refl _)]; simp
              subst hgj; subst hej
              go_wp2
              go_ret3
              exact ⟨by first | rfl | (congr 1), rfl⟩
            · have hgj : gg = j + 1 := by rw [← HG.out.1, jj_odd _ (by omega)]; exact g_end B (by omega)
              have hej : ee = esc := by rw [← HG.out.2.1, jj_odd _ (by omega), ge_end B (by omega)]; simp
              subst hgj; subst hej
              go_wp2
              go_ret3
              exact ⟨by first | rfl | (congr 1), rfl⟩
    · obtain rfl : i = n := by omega
      have hsi : s = i := HW.out.symm.trans (ws_end B (Nat.le_refl _))
      subst hsi
      have hgj : gg = s + 1 := by rw [← HS.out.2.1]; exact g_end B (by omega)
      have hej : ee = false := by rw [← HS.out.2.2]; exact ge_end B (by omega)
      subst hgj; subst hej
      go_wp2
      go_ret3
      exact ⟨by first | rfl | (congr 1), rfl⟩

end Go.Proofs.Qxb6604098a
