import Derived.Test.Qxb6604098aWalk3
import Derived.Test.Qxb6604098aLaw3
namespace Go.Proofs.Qxb6604098a
open Go.RowKit
set_option linter.unusedVariables false
set_option linter.unusedSimpArgs false
attribute [local go_sem ↓] Go.wp_at_zero Go.wp_at_succ

set_option maxHeartbeats 400000 in
theorem zskipNested_any (a : Option Addr) (n c b off i0 : Nat) (B : Nat → Int) (w : World) (hn : n ≤ 4194304) (hi0 : i0 ≤ n) (hB : IsBytes w a n b off B) :
    Calls Try.prog 15 #[.slice a n c, .int .i64 (i0 : Int)] w fun e w' => e = .returned (.int .i64 ((hh B n i0 0 : Nat) : Int)) ∧ Below w.heap.size w w' := by
  have hb0 : 0 < n → b ≠ w.heap.size := fun h => by have := hB.lt h; omega
  obtain ⟨T, hT⟩ : ∃ T, hh B n i0 0 = T := ⟨_, rfl⟩
  have HS : Hid (hh B n i0 0 = T) := hT
  rw [hT]
  clear hT
  go_enter Try.func15, Try.ntmps15
  go_wp2_with (go_at_call 19; refine (skipNested_any w.heap.size a n c b off i0 B _ hn hi0 (Blk.new w 35 [.slice a n c, .int .i64 (i0 : Int)]) (hB.below ((Below.refl _ w).alloc (Nat.le_refl _) _)) hb0).mono ?_; rw [HS.out]; rintro e w1 ⟨rfl, hP1, hex1⟩; have hx1 := hP1.wk.2)
  go_ret
  refine ⟨rfl, ?_⟩
  exact (((Below.refl _ w).alloc (Nat.le_refl _) _).trans (hex1.below (by simp) (by omega)))

set_option maxHeartbeats 4000000 in
theorem modelNested_any (a : Option Addr) (n c b off i0 : Nat) (B : Nat → Int) (w : World) (hn : n ≤ 4194304) (hi0 : i0 ≤ n) (hB : IsBytes w a n b off B) :
    Calls Try.prog 16 #[.slice a n c, .int .i64 (i0 : Int)] w fun e w' => e = .returned (.int .i64 ((hh B n i0 0 : Nat) : Int)) ∧ w = w' := by
  obtain ⟨T, hT⟩ : ∃ T, hh B n i0 0 = T := ⟨_, rfl⟩
  have HT : Hid (hh B n i0 0 = T) := hT
  rw [hT]
  clear hT
  by_cases hin : n ≤ i0
  · have hz : T = i0 := HT.out.symm.trans (hh_end B 0 (by omega))
    subst hz
    have hge : (n : Int) ≤ (T : Int) := by omega
    go_enter Try.func16, Try.ntmps16
    go_wp2
    go_ret
    exact ⟨rfl, rfl⟩
  have hin' : i0 < n := by omega
  obtain rfl := hB.1 (by omega)
  have hnge : ¬ ((n : Int) ≤ (i0 : Int)) := by omega
  go_enter Try.func16, Try.ntmps16
  go_wp2
  go_loopg [6, 7, 8, 9] (n - i0) (fun k dn sn rn jn wr => ∃ (i : Nat) (d : Int) (ins : Bool) (r : Nat), i ≤ n ∧ k = n - i ∧ -(i : Int) ≤ d ∧ d ≤ i ∧ r ≤ i ∧ dn = .int .i64 d ∧ sn = .bool ins ∧ rn = .int .i64 (r : Int) ∧ jn = .int .i64 (i : Int) ∧
    (ins = false → hh B n i d = T) ∧ (ins = true → hh B n (g B n (jj r i)) d = T) ∧ w = wr)
  case atStart => exact ⟨i0, 0, false, 0, by omega, rfl, by omega, by omega, by omega, rfl, rfl, rfl, rfl, fun _ => HT.out, (fun h => by cases h), rfl⟩
  case round =>
    obtain ⟨i, d, ins, r, hi, rfl, hd1, hd2, hr, rfl, rfl, rfl, rfl, hF, hI, rfl⟩ := hrel
    by_cases hlt : i < n
    · have hc : w.cell? ⟨b, off + i, none⟩ = some (.int .u8 (B i)) := hB.2 i hlt
      have hl0 : (0 : Int) ≤ (i : Int) := by omega
      have hl1 : (i : Int) < (n : Int) := by omega
      cases ins with
      | true =>
        have HH : Hid (hh B n (g B n (jj r i)) d = T) := hI rfl
        clear hF hI
        by_cases h34 : B i = 34
        · by_cases hp : r % 2 = 0
          · have HG : Hid (hh B n (i + 1) d = T) := by have := HH.out; rwa [jj_even _ hp, g_quote B hlt h34] at this
            go_wp2
            go_roundg (n - (i + 1))
            case measure => omega
            case rel => exact ⟨i + 1, d, false, r, by omega, rfl, by omega, by omega, by omega, rfl, rfl, rfl, by go_num, fun _ => HG.out, (fun h => by cases h), rfl⟩
          · have HG : Hid (hh B n (g B n (jj 0 (i + 1))) d = T) := by have := HH.out; rw [jj_odd _ (by omega : r % 2 = 1)] at this; rw [jj_even _ rfl]; exact this
            go_wp2
            go_roundg (n - (i + 1))
            case measure => omega
            case rel => exact ⟨i + 1, d, true, 0, by omega, rfl, by omega, by omega, by omega, rfl, rfl, rfl, by go_num, (fun h => by cases h), fun _ => HG.out, rfl⟩
        · have e34 : (B i == 34) = false := by simp [h34]
          by_cases h92 : B i = 92
          · have HG : Hid (hh B n (g B n (jj (r + 1) (i + 1))) d = T) := by
              have := HH.out
              by_cases hp : r % 2 = 0
              · rw [jj_even _ hp, g_back B hlt h92] at this
                rw [jj_odd _ (by omega : (r + 1) % 2 = 1)]; exact this
              · rw [jj_odd _ (by omega : r % 2 = 1)] at this
                rw [jj_even _ (by omega : (r + 1) % 2 = 0)]; exact this
            go_wp2
            go_roundg (n - (i + 1))
            case measure => omega
            case rel => exact ⟨i + 1, d, true, r + 1, by omega, rfl, by omega, by omega, by omega, rfl, rfl, by go_num, by go_num, (fun h => by cases h), fun _ => HG.out, rfl⟩
          · have e92 : (B i == 92) = false := by simp [h92]
            have HG : Hid (hh B n (g B n (jj 0 (i + 1))) d = T) := by
              have := HH.out
              rw [jj_even _ rfl]
              by_cases hp : r % 2 = 0
              · rwa [jj_even _ hp, g_other B hlt h92 h34] at this
              · rwa [jj_odd _ (by omega : r % 2 = 1)] at this
            go_wp2
            go_roundg (n - (i + 1))
            case measure => omega
            case rel => exact ⟨i + 1, d, true, 0, by omega, rfl, by omega, by omega, by omega, rfl, rfl, rfl, by go_num, (fun h => by cases h), fun _ => HG.out, rfl⟩
      | false =>
        have HH : Hid (hh B n i d = T) := hF rfl
        clear hF hI
        by_cases h34 : B i = 34
        · have HG : Hid (hh B n (g B n (jj 0 (i + 1))) d = T) := by rw [jj_even _ rfl]; exact (hh_quote B d hlt h34).symm.trans HH.out
          go_wp2
          go_roundg (n - (i + 1))
          case measure => omega
          case rel => exact ⟨i + 1, d, true, 0, by omega, rfl, by omega, by omega, by omega, rfl, rfl, rfl, by go_num, (fun h => by cases h), fun _ => HG.out, rfl⟩
        · have e34 : (B i == 34) = false := by simp [h34]
          by_cases hup : B i = 123 ∨ B i = 91
          · have HDD : Hid (dd (B i) d = d + 1) := dd_up d hup
            by_cases hz : d + 1 = 0
            · have hG : T = i + 1 := HH.out.symm.trans (hh_stop B d hlt h34 (by rw [HDD.out]; exact hz))
              subst hG
              have hz' : ((d + 1 : Int) == 0) = true := by simp [hz]
              rcases hup with hup | hup
              all_goals
                go_wp2
                go_ret
                exact ⟨by first | rfl | (congr 1), rfl⟩
            · have HG : Hid (hh B n (i + 1) (d + 1) = T) := by rw [← HDD.out]; exact (hh_on B d hlt h34 (by rw [HDD.out]; exact hz)).symm.trans HH.out
              have hz' : ((d + 1 : Int) == 0) = false := by simp [hz]
              rcases hup with hup | hup
              all_goals
                go_wp2
                go_roundg (n - (i + 1))
                case measure => omega
                case rel => exact ⟨i + 1, d + 1, false, r, by omega, rfl, by omega, by omega, by omega, rfl, rfl, rfl, by go_num, fun _ => HG.out, (fun h => by cases h), rfl⟩
          · have eu1 : (B i == 123) = false := by simp; omega
            have eu2 : (B i == 91) = false := by simp; omega
            by_cases hdn : B i = 125 ∨ B i = 93
            · have HDD : Hid (dd (B i) d = d - 1) := dd_down d hdn
              clear hup
              by_cases hz : d - 1 = 0
              · have hG : T = i + 1 := HH.out.symm.trans (hh_stop B d hlt h34 (by rw [HDD.out]; exact hz))
                subst hG
                have hz' : ((d - 1 : Int) == 0) = true := by simp [hz]
                rcases hdn with hdn | hdn
                all_goals
                  go_wp2
                  go_ret
                  exact ⟨by first | rfl | (congr 1), rfl⟩
              · have HG : Hid (hh B n (i + 1) (d - 1) = T) := by rw [← HDD.out]; exact (hh_on B d hlt h34 (by rw [HDD.out]; exact hz)).symm.trans HH.out
                have hz' : ((d - 1 : Int) == 0) = false := by simp [hz]
                rcases hdn with hdn | hdn
                all_goals
                  go_wp2
                  go_roundg (n - (i + 1))
                  case measure => omega
                  case rel => exact ⟨i + 1, d - 1, false, r, by omega, rfl, by omega, by omega, by omega, rfl, rfl, rfl, by go_num, fun _ => HG.out, (fun h => by cases h), rfl⟩
            · have eu3 : (B i == 125) = false := by simp; omega
              have eu4 : (B i == 93) = false := by simp; omega
              have HDD : Hid (dd (B i) d = d) := dd_same d (by omega) (by omega) (by omega) (by omega)
              clear hup hdn
              by_cases hz : d = 0
              · have hG : T = i + 1 := HH.out.symm.trans (hh_stop B d hlt h34 (by rw [HDD.out]; exact hz))
                subst hG
                have hz' : ((d : Int) == 0) = true := by simp [hz]
                go_wp2
                go_ret
                exact ⟨by first | rfl | (congr 1), rfl⟩
              · have HG : Hid (hh B n (i + 1) d = T) := by
                  have := (hh_on B d hlt h34 (by rw [HDD.out]; exact hz)).symm.trans HH.out
                  rwa [HDD.out] at this
                have hz' : ((d : Int) == 0) = false := by simp [hz]
                go_wp2
                go_roundg (n - (i + 1))
                case measure => omega
                case rel => exact ⟨i + 1, d, false, r, by omega, rfl, by omega, by omega, by omega, rfl, rfl, rfl, by go_num, fun _ => HG.out, (fun h => by cases h), rfl⟩
    · obtain rfl : i = n := by omega
      cases ins with
      | true =>
        by_cases hp : r % 2 = 0
        · have hG : T = i := by have := hI rfl; rw [jj_even _ hp, g_end B (Nat.le_refl _), hh_end B d (Nat.le_refl _)] at this; exact this.symm
          subst hG
          clear hF hI
          go_wp2
          go_ret
          exact ⟨by first | rfl | (congr 1), rfl⟩
        · have hG : T = i + 1 := by have := hI rfl; rw [jj_odd _ (by omega : r % 2 = 1), g_end B (by omega), hh_end B d (by omega)] at this; exact this.symm
          subst hG
          clear hF hI
          go_wp2
          go_ret
          exact ⟨by first | rfl | (congr 1), rfl⟩
      | false =>
        have hG : T = i := by have := hF rfl; rw [hh_end B d (Nat.le_refl _)] at this; exact this.symm
        subst hG
        clear hF hI
        go_wp2
        go_ret
        exact ⟨by first | rfl | (congr 1), rfl⟩

end Go.Proofs.Qxb6604098a
