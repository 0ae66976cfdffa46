import Derived.Test.Qxb6604098aWalk2
namespace Go.Proofs.Qxb6604098a
open Go.RowKit
set_option linter.unusedVariables false
set_option linter.unusedSimpArgs false
attribute [local go_sem ↓] Go.wp_at_zero Go.wp_at_succ

set_option maxHeartbeats 2000000 in
/-- 'skipNested': where it leaves the walker. -/
theorem skipNested_any (P : Nat) (a : Option Addr) (n c b off i0 : Nat) (B : Nat → Int) (w : World) (hn : n ≤ 4194304) (hi0 : i0 ≤ n) (hP : Blk w P 35 [.slice a n c, .int .i64 (i0 : Int)]) (hB : IsBytes w a n b off B) (hbP : 0 < n → b ≠ P) :
    Calls Try.prog 19 #[.pointer (some ⟨P, 0, none⟩)] w fun e w' => e = .returned (.tuple #[]) ∧
      Blk w' P 35 [.slice a n c, .int .i64 ((hh B n i0 0 : Nat) : Int)] ∧ Ex (fun k => k = P) w w' := by
  obtain ⟨T, hT⟩ : ∃ T, hh B n i0 0 = T := ⟨_, rfl⟩
  rw [hT]
  have HT : Hid (hh B n i0 0 = T) := hT
  clear hT
  go_enter Try.func19, Try.ntmps19
  go_wp2
  go_loopg [2] (n + 1 - i0) (fun k dn wr => ∃ (i : Nat) (d : Int), i ≤ n + 1 ∧ k = n + 1 - i ∧ -(i : Int) ≤ d ∧ d ≤ i ∧ dn = .int .i64 d ∧ hh B n i d = T ∧ Blk wr P 35 [.slice a n c, .int .i64 (i : Int)] ∧ Ex (fun k => k = P) w wr)
  case atStart => exact ⟨i0, 0, by omega, rfl, by omega, by omega, rfl, HT.out, hP, Ex.refl _ _⟩
  case round =>
    obtain ⟨i, d, hi, rfl, hd1, hd2, rfl, hT, hPr, hex⟩ := hrel
    have hS : Hid (wk P a n c i wr.drew) := hPr.drew.wk
    have HH : Hid (hh B n i d = T) := hT
    clear hT
    by_cases hlt : i < n
    · obtain rfl := hB.1 (by omega)
      have hc : wr.cell? ⟨b, off + i, none⟩ = some (.int .u8 (B i)) := ((hB.ex hex (fun h => hbP h)).2 i hlt)
      have hl0 : (0 : Int) ≤ (i : Int) := by omega
      have hl1 : (i : Int) < (n : Int) := by omega
      have hx1 := hPr.wk.2
      have hxf := hPr.frozen 1
      go_wp2
      go_region_held3 (wk P (some ⟨b, off, none⟩) n c i) (exact hS.out) (fail)
      go_wp2
      go_region_held3 (fun w' => wk P (some ⟨b, off, none⟩) n c i w' ∧ w'.cell? ⟨b, off + i, none⟩ = some (.int .u8 (B i))) (exact ⟨hS.out, hc⟩) (fail)
      have hM1 := hPr.at_set ((i : Int) + 1)
      have hE1 := hex.setCell1 1 (.int .i64 ((i : Int) + 1))
      have HM : Hid _ := And.intro hM1 hE1
      clear hM1 hE1
      by_cases h34 : B i = 34
      · have hwi : ws B n i = i := ws_no B (fun _ => by rw [h34]; rfl)
        have HG : Hid (hh B n (g B n (i + 1)) d = T) := (hh_quote B d hlt h34).symm.trans HH.out
        have hg1 := g_ge B n (i + 1)
        have hg2 := g_le B n (i + 1) (by omega)
        have hBd : IsBytes wr.drew.drew (some ⟨b, off, none⟩) n b off B := hB.ex hex.drew.drew (fun h => hbP h)
        have HWI : Hid (ws B n i = i) := hwi
        clear hwi
        go_wp2_with (go_at_call 18; refine (skipString_any P _ n c b off i B _ hn (by omega) hPr.drew.drew hBd hbP).mono ?_; rw [HWI.out]; rintro e w1 ⟨rfl, hP1, hex1⟩)
        go_roundg (n + 1 - g B n (i + 1))
        case measure => omega
        case rel => exact ⟨g B n (i + 1), d, hg2, rfl, by omega, by omega, rfl, HG.out, hP1, hex.drew.drew.trans hex1⟩
      · have e34 : (B i == 34) = false := by simp [h34]
        by_cases hup : B i = 123 ∨ B i = 91
        · have hdd := dd_up d hup
          have HDD : Hid (dd (B i) d = d + 1) := hdd
          clear hdd
          by_cases hz : d + 1 = 0
          · have HG : Hid (T = i + 1) := HH.out.symm.trans (hh_stop B d hlt h34 (by rw [HDD.out]; exact hz))
            have hz' : ((d + 1 : Int) == 0) = true := by simp [hz]
            rcases hup with hup | hup
            all_goals
              go_wp2
              exact bodyPost_ret (results_none rfl _ _ _) rfl ⟨rfl, by rw [HG.out]; exact HM.out.1, HM.out.2.drew.drew⟩
          · have HG : Hid (hh B n (i + 1) (d + 1) = T) := by rw [← HDD.out]; exact (hh_on B d hlt h34 (by rw [HDD.out]; exact hz)).symm.trans HH.out
            have hz' : ((d + 1 : Int) == 0) = false := by simp [hz]
            rcases hup with hup | hup
            all_goals
              go_wp2
              go_roundg (n + 1 - (i + 1))
              case measure => omega
              case rel => exact ⟨i + 1, d + 1, by omega, rfl, by omega, by omega, rfl, HG.out, HM.out.1, HM.out.2.drew.drew⟩
        · have eu1 : (B i == 123) = false := by simp; omega
          have eu2 : (B i == 91) = false := by simp; omega
          by_cases hdn : B i = 125 ∨ B i = 93
          · have hdd := dd_down d hdn
            have HDD : Hid (dd (B i) d = d - 1) := hdd
            clear hdd hup
            by_cases hz : d - 1 = 0
            · have HG : Hid (T = i + 1) := HH.out.symm.trans (hh_stop B d hlt h34 (by rw [HDD.out]; exact hz))
              have hz' : ((d - 1 : Int) == 0) = true := by simp [hz]
              rcases hdn with hdn | hdn
              all_goals
                go_wp2
                exact bodyPost_ret (results_none rfl _ _ _) rfl ⟨rfl, by rw [HG.out]; exact HM.out.1, HM.out.2.drew.drew⟩
            · have HG : Hid (hh B n (i + 1) (d - 1) = T) := by rw [← HDD.out]; exact (hh_on B d hlt h34 (by rw [HDD.out]; exact hz)).symm.trans HH.out
              have hz' : ((d - 1 : Int) == 0) = false := by simp [hz]
              rcases hdn with hdn | hdn
              all_goals
                go_wp2
                go_roundg (n + 1 - (i + 1))
                case measure => omega
                case rel => exact ⟨i + 1, d - 1, by omega, rfl, by omega, by omega, rfl, HG.out, HM.out.1, HM.out.2.drew.drew⟩
          · have eu3 : (B i == 125) = false := by simp; omega
            have eu4 : (B i == 93) = false := by simp; omega
            have HDD : Hid (dd (B i) d = d) := dd_same d (by omega) (by omega) (by omega) (by omega)
            clear hup hdn
            by_cases hz : d = 0
            · have HG : Hid (T = i + 1) := HH.out.symm.trans (hh_stop B d hlt h34 (by rw [HDD.out]; exact hz))
              have hz' : ((d : Int) == 0) = true := by simp [hz]
              go_wp2
              exact bodyPost_ret (results_none rfl _ _ _) rfl ⟨rfl, by rw [HG.out]; exact HM.out.1, HM.out.2.drew.drew⟩
            · have HG : Hid (hh B n (i + 1) d = T) := by
                have := (hh_on B d hlt h34 (by rw [HDD.out]; exact hz)).symm.trans HH.out
                rwa [HDD.out] at this
              have hz' : ((d : Int) == 0) = false := by simp [hz]
              go_wp2
              go_roundg (n + 1 - (i + 1))
              case measure => omega
              case rel => exact ⟨i + 1, d, by omega, rfl, by omega, by omega, rfl, HG.out, HM.out.1, HM.out.2.drew.drew⟩
    · have HG : Hid (T = i) := HH.out.symm.trans (hh_end B d (by omega))
      go_wp2
      go_region_held3 (wk P a n c i) (exact hS.out) (fail)
      go_wp2
      go_end0
      exact ⟨rfl, by rw [HG.out]; exact hPr.drew, hex.drew⟩

end Go.Proofs.Qxb6604098a
