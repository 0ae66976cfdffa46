import Derived.Test.Qxb6604013aArena
namespace Go.Proofs.Qxb6604013a
open Go.RowKit
set_option linter.unusedVariables false
set_option linter.unusedSimpArgs false
attribute [local go_sem ↓] Go.wp_at_zero Go.wp_at_succ

/-- The two cells of the arena in the Memory's block. -/
abbrev mcell27 (Mb : Nat) (ao : Option Addr) (nc hc q : Nat) (w' : World) : Prop :=
  w'.cell? ⟨Mb, 0, none⟩ = some (.slice ao nc hc) ∧ w'.cell? ⟨Mb, 1, none⟩ = some (.int .i64 (q : Int))
theorem mcell27_set {Mb : Nat} {ao : Option Addr} {nc hc q : Nat} {w' : World} (h : mcell27 Mb ao nc hc q w') {g o : Nat} {v : Value} (hne : g ≠ Mb) : mcell27 Mb ao nc hc q (w'.setCell ⟨g, o, none⟩ v) :=
  ⟨by rw [World.cell?_setCell_other _ _ _ _ (by simp [hne])]; exact h.1, by rw [World.cell?_setCell_other _ _ _ _ (by simp [hne])]; exact h.2⟩

set_option maxHeartbeats 2000000 in
theorem take27 (Mb N n ch p : Nat) (M : List Value) (hv : Value) (cks : List Ck) (w : World) (hM : Blk w Mb 36 M) (hM0 : M[0]? = some hv) (hM1 : M[1]? = some (.int .i64 (p : Int)))
    (hA : Arena w N 22 5 1 hv p cks) (hMN : Mb < N) (hNs : N ≤ w.heap.size) (hck : cks.length ≤ 1048576) (hn : n ≤ 1048576) (hch0 : 0 < ch) (hch : ch ≤ 8192) :
    Calls Try.prog 27 #[.pointer (some ⟨Mb, 0, none⟩), .int .i64 (n : Int), .int .i64 (ch : Int)] w (TakeAns w Mb 0 N 22 5 1 n M cks) := by
  obtain ⟨ao, hb, hc, rfl, hform⟩ := hA.form
  have hMl : 1 < M.length := (List.getElem?_eq_some_iff.1 hM1).1
  go_enter Try.func27, Try.ntmps27
  go_wp2
  go_loopg [] (cks.length - p) (fun k wr => ∃ q : Nat, q ≤ cks.length ∧ k = cks.length - q ∧ Blk wr Mb 36 (M.set 1 (.int .i64 (q : Int))) ∧ Ex (fun b => b = Mb) w wr)
  case atStart => exact ⟨p, hA.at_le, rfl, by rw [show M.set 1 (.int .i64 (p : Int)) = M from set_same hM1]; exact hM, Ex.refl _ _⟩
  case round =>
    obtain ⟨q, hq, rfl, hMr, hex⟩ := hrel
    have hS : mcell27 Mb ao cks.length hc q wr := ⟨by rw [hMr.cell, List.getElem?_set_ne (by omega)]; exact hM0, by rw [hMr.cell]; simp [hMl]⟩
    have hS1 : Hid (mcell27 Mb ao cks.length hc q wr.drew) := hS
    by_cases hlt : q < cks.length
    · obtain ⟨hao, hv2, hhb⟩ := hform (by omega)
      subst hao
      have hAr : Arena wr N 22 5 1 (.slice (some ⟨hb, 0, none⟩) cks.length hc) p cks := hA.ex hex (fun k hk _ hh => by omega)
      have hcc : wr.cell? ⟨hb, q, none⟩ = some (.slice (some ⟨(cks[q]).1, 0, none⟩) (cks[q]).2.1 (cks[q]).2.2) := by
        rw [hAr.own.cellAt q (by omega)]; simp [hlt, ckv]
      have hcf : wr.frozen? ⟨hb, q, none⟩ = false := hAr.own.frozenAt q
      obtain ⟨hc1, _, hc2, hc3⟩ := hA.chunk (cks[q]) (List.getElem_mem _)
      have hl0 : (0 : Int) ≤ (q : Int) := by omega
      have hl1 : (q : Int) < (cks.length : Int) := by omega
      have hne : hb ≠ Mb := by have := hhb.1; omega
      obtain ⟨ck, hcke⟩ : ∃ ck, ck = cks[q] := ⟨_, rfl⟩
      rw [← hcke] at hcc hc1 hc2 hc3
      have HCK : Hid _ := hcke
      clear hcke
      have HH : Hid (mcell27 Mb (some ⟨hb, 0, none⟩) cks.length hc q wr) := hS
      clear hS
      by_cases hroom : ck.2.1 + n ≤ ck.2.2
      · go_wp2
        go_region_held3 (mcell27 Mb (some ⟨hb, 0, none⟩) cks.length hc q) (exact hS1.out) (fail)
        go_wp2
        go_region_held3 (fun w' => mcell27 Mb (some ⟨hb, 0, none⟩) cks.length hc q w' ∧ w'.cell? ⟨hb, q, none⟩ = some (.slice (some ⟨ck.1, 0, none⟩) ck.2.1 ck.2.2)) (exact ⟨hS1.out, hcc⟩) (fail)
        have ht1 : (0 : Int) ≤ (ck.2.1 : Int) + (n : Int) := by omega
        have ht2 : (ck.2.1 : Int) + (n : Int) ≤ (ck.2.2 : Int) := by omega
        have ht3 : ((ck.2.1 : Int) + (n : Int)).toNat = ck.2.1 + n := by omega
        have ht4 : IntKind.i64.wrap ((ck.2.1 : Int) + (n : Int)) = (ck.2.1 : Int) + (n : Int) := by rw [IntKind.wrap_i64]; omega
        go_wp2
        go_region_held3 (mcell27 Mb (some ⟨hb, 0, none⟩) cks.length hc q) (first | exact hS1.out | exact mcell27_set (g := hb) (o := q) (v := .slice (some ⟨ck.1, 0, none⟩) (ck.2.1 + n) ck.2.2) HH.out hne) (fail)
        rename_i hHeld
        clear hHeld ht4
        go_wp2
        all_goals
          go_ret
          first
            | exact takeAns_room ck hM0 hMr hAr hMN hex (by decide) hlt HCK.out hroom rfl (by simp [*])
            | (obtain rfl : n = 0 := by assumption
               exact takeAns_room ck hM0 hMr hAr hMN hex (by decide) hlt HCK.out hroom rfl (by simp))
      · go_wp2
        go_region_held3 (mcell27 Mb (some ⟨hb, 0, none⟩) cks.length hc q) (exact hS1.out) (fail)
        go_wp2
        go_region_held3 (fun w' => mcell27 Mb (some ⟨hb, 0, none⟩) cks.length hc q w' ∧ w'.cell? ⟨hb, q, none⟩ = some (.slice (some ⟨ck.1, 0, none⟩) ck.2.1 ck.2.2)) (exact ⟨hS1.out, hcc⟩) (fail)
        have hx1 := HH.out.2
        have hxf := hMr.frozen 1
        have hM2 := hMr.setCell 1 (.int .i64 ((q + 1 : Nat) : Int))
        have hE2 : Ex (fun b => b = Mb) w (wr.setCell ⟨Mb, 1, none⟩ (.int .i64 ((q + 1 : Nat) : Int))) := hex.trans ⟨rfl, rfl, rfl, by simp, fun k _ hk => Below.heap_setCell _ _ _ _ hk⟩
        rw [List.set_set] at hM2
        have HM : Hid _ := And.intro hM2 hE2
        clear hM2 hE2 hAr hMr hex
        go_wp2
        go_roundg (cks.length - (q + 1))
        case measure => omega
        case rel => exact ⟨q + 1, by omega, rfl, HM.out.1, HM.out.2.drew.drew⟩
    · obtain rfl : q = cks.length := by omega
      go_wp2
      go_region_held3 (mcell27 Mb ao cks.length hc cks.length) (exact hS1.out) (fail)
      have hMlt : Mb < wr.drew.heap.size := hMr.lt
      have hsz := hex.size
      have hAr : Arena wr N 22 5 1 (.slice ao cks.length hc) p cks := hA.ex hex (fun k hk _ hh => by omega)
      obtain ⟨i0, hi0, hz0, hz1, hz2⟩ := info_parts info22
      by_cases hmx : n ≤ ch
      · have hnX : (n : Int) ≤ (ch : Int) := by omega
        go_wp2_with (first | (go_at_call 29; refine (resident29 ch _ (by omega) (by omega)).mono ?_; rintro e w5 ⟨rfl, hT5, hb5⟩; have hx0 : w5.cell? ⟨Mb, 0, none⟩ = some (.slice ao cks.length hc) := (hb5.cell (p := ⟨Mb, 0, none⟩) hMlt).trans hS.1; have hown5 : w5.ownsRow N 22 1 (.slice ao cks.length hc) cks.length (cks.map ckv) := (hAr.drew.ex (Ex.of_below (Ex.refl (fun _ => False) _) hb5) (fun k hk => hk.elim)).own) | (at_builtin; go_must (refine wpList_append_lies _ (by rfl) (.tmp 80) (.tmp 82) 27 (by rfl) N 22 i0 (.slice none 0 0) 1 24 Try.underlying27 hi0 hz0 hz1 hz2 rfl (by decide) _ cks.length (cks.map ckv) (by rfl) (hown5.alloc _) ⟨w5.heap.size, 0, none⟩ 1 1 [ckv (wr.heap.size, n, ch)] (by rfl) rfl (cell_one_new _ _ _) (by simp [ckv, Value.oneCell']) (by omega) (by unfold maxLen; omega) (by omega) (by have := hb5.size; simp at *; omega) (w5.heap.size + 1) (by simp) ?_); intro g cap w6 hown6 hgrow hat hlt6; go_must (have hxx := takeAns_cell hAr.drew hMN hMlt hb5 hgrow 0 hx0); have hx6 := hxx.1; go_must (have hf6 := hxx.2 (hMr.drew.frozen 0))))
        go_ret
        exact takeAns_new (wr := wr.drew) hMr.drew hAr.drew hMN hNs hex.drew (by decide) (by decide) hT5 (by rw [Rep_length]; rfl) (by omega) (by omega) hb5 hown6 hgrow
      · have hnX : (n : Int) ≤ (n : Int) := by omega
        go_wp2_with (first | (go_at_call 29; refine (resident29 n _ (by omega) (by omega)).mono ?_; rintro e w5 ⟨rfl, hT5, hb5⟩; have hx0 : w5.cell? ⟨Mb, 0, none⟩ = some (.slice ao cks.length hc) := (hb5.cell (p := ⟨Mb, 0, none⟩) hMlt).trans hS.1; have hown5 : w5.ownsRow N 22 1 (.slice ao cks.length hc) cks.length (cks.map ckv) := (hAr.drew.ex (Ex.of_below (Ex.refl (fun _ => False) _) hb5) (fun k hk => hk.elim)).own) | (at_builtin; go_must (refine wpList_append_lies _ (by rfl) (.tmp 80) (.tmp 82) 27 (by rfl) N 22 i0 (.slice none 0 0) 1 24 Try.underlying27 hi0 hz0 hz1 hz2 rfl (by decide) _ cks.length (cks.map ckv) (by rfl) (hown5.alloc _) ⟨w5.heap.size, 0, none⟩ 1 1 [ckv (wr.heap.size, n, n)] (by rfl) rfl (cell_one_new _ _ _) (by simp [ckv, Value.oneCell']) (by omega) (by unfold maxLen; omega) (by omega) (by have := hb5.size; simp at *; omega) (w5.heap.size + 1) (by simp) ?_); intro g cap w6 hown6 hgrow hat hlt6; go_must (have hxx := takeAns_cell hAr.drew hMN hMlt hb5 hgrow 0 hx0); have hx6 := hxx.1; go_must (have hf6 := hxx.2 (hMr.drew.frozen 0))))
        go_ret
        exact takeAns_new (wr := wr.drew) hMr.drew hAr.drew hMN hNs hex.drew (by decide) (by decide) hT5 (by rw [Rep_length]; rfl) (by omega) (by omega) hb5 hown6 hgrow

end Go.Proofs.Qxb6604013a
